import JvmDerived
import JvmDerived.Pilot.@@N@@Statement
import JvmDerived.Pilot.@@N@@Code
set_option linter.unusedVariables false
set_option linter.unusedSimpArgs false
namespace Jvm.Pilot.@@N@@
open Jvm Jvm.ClassFile Sem Op Lib Jvm.Free Jvm.Stand Jvm.LawKit Jvm.RoadKit Bundle Jvm.Pilot.@@N@@.Jvm.D
def own_e (m m2 : Int64) (c c2 : Int32) (w w2 t t2 : Int64) : Int32 := if lcmpW m m2 = 0 then (if c = c2 then (if lcmpW w w2 = 0 then (if lcmpW t t2 = 0 then 1 else 0) else 0) else 0) else 0
theorem own_sym (x y : Int64) : (lcmpW x y = 0) = (lcmpW y x = 0) := by
  rw [eq_iff_iff, lw_eq, lw_eq]; exact eq_comm
theorem own_esym (m m2 : Int64) (c c2 : Int32) (w w2 t t2 : Int64) : own_e m2 m c2 c w2 w t2 t = own_e m m2 c c2 w w2 t t2 := by
  unfold own_e
  simp only [own_sym m2 m, own_sym w2 w, own_sym t2 t, @eq_comm _ c2 c]
theorem own_eself (m : Int64) (c : Int32) (w t : Int64) : own_e m m c c w w t t = 1 := by
  unfold own_e
  simp [lw_eq]
def own_pick (c : Int32) (x y : Int64) : Int64 := if c = 0 then x else y
def own_b (f : Int32) : Int32 := if (f &&& (1 : Int32)) = 0 then 0 else 1
def own_c2 (f c : Int32) : Int32 := if (f &&& (4 : Int32)) = 0 then c else (if c = 0 then 1 else 0)
def own_x (f : Int32) : Int32 := if (f &&& (30 : Int32)) = 0 then 1 else 0
theorem own_mask (f : Int32) : (f &&& (30 : Int32)) = 0 ↔ ((f &&& (2 : Int32)) = 0 ∧ (f &&& (4 : Int32)) = 0 ∧ (f &&& (8 : Int32)) = 0 ∧ (f &&& (16 : Int32)) = 0) := by
  constructor
  · intro h
    have k : ∀ m : Int32, (30 : Int32) &&& m = m → f &&& m = 0 := fun m hm => by
      rw [← hm, ← Int32.and_assoc, h, Int32.zero_and]
    exact ⟨k 2 (by decide), k 4 (by decide), k 8 (by decide), k 16 (by decide)⟩
  · rintro ⟨h1, h2, h3, h4⟩
    have e : (30 : Int32) = ((2 ||| 4) ||| 8) ||| 16 := by decide
    apply Int32.toBitVec_inj.mp
    have b1 := congrArg Int32.toBitVec h1
    have b2 := congrArg Int32.toBitVec h2
    have b3 := congrArg Int32.toBitVec h3
    have b4 := congrArg Int32.toBitVec h4
    rw [e]
    simp only [Int32.toBitVec_and, Int32.toBitVec_or] at *
    rw [BitVec.and_or_distrib_left, BitVec.and_or_distrib_left, BitVec.and_or_distrib_left, b1, b2, b3, b4]
    rfl
theorem own_odd (d : Int64) : (d ||| (1 : Int64)) ≠ 0 := by
  intro h
  have b := congrArg Int64.toBitVec h
  have c := congrArg (fun z : BitVec 64 => z.getLsbD 0) b
  simp at c
theorem own_addne (m dl : Int64) (h : dl ≠ 0) : m ≠ m + dl := by
  intro q
  apply h
  apply Int64.toInt_inj.mp
  have a := c_ladd m dl
  rw [← q] at a
  have r := rng64 dl
  have e : (0 : Int64).toInt = 0 := by decide
  omega
theorem own_pickeq (c : Int32) (m dl : Int64) (h : dl ≠ 0) : m = own_pick c m (m + dl) ↔ c = 0 := by
  unfold own_pick
  split
  · simp [*]
  · simp only [*, iff_false]
    exact own_addne m dl h
theorem own_c2eq (f c : Int32) (hc : c = 0 ∨ c = 1) : nar .boolean c = nar .boolean (own_c2 f c) ↔ (f &&& (4 : Int32)) = 0 := by
  unfold own_c2
  split
  · simp [*]
  · rcases hc with rfl | rfl
    · simp only [*, iff_false, if_true]; decide
    · simp only [*, iff_false]; decide
theorem own_main (f c : Int32) (m w t d m2 w2 t2 dl : Int64) (c2 : Int32) (h_c : c = own_b f) (h_dl : dl = (d ||| (1 : Int64))) (h_m2 : m2 = own_pick (f &&& (2 : Int32)) m (m + dl)) (h_c2 : c2 = own_c2 f c) (h_w2 : w2 = own_pick (f &&& (8 : Int32)) w (w + dl)) (h_t2 : t2 = own_pick (f &&& (16 : Int32)) t (t + dl)) :
    own_e m m2 (nar .boolean c) (nar .boolean c2) w w2 t t2 = own_x f := by
  have hd : dl ≠ 0 := h_dl ▸ own_odd d
  have hc : c = 0 ∨ c = 1 := by rw [h_c]; unfold own_b; split <;> simp
  subst h_m2 h_c2 h_w2 h_t2
  unfold own_e own_x
  simp only [lw_eq, own_pickeq _ _ _ hd, own_c2eq f c hc, own_mask]
  by_cases p1 : (f &&& (2 : Int32)) = 0 <;> by_cases p2 : (f &&& (4 : Int32)) = 0 <;> by_cases p3 : (f &&& (8 : Int32)) = 0 <;> by_cases p4 : (f &&& (16 : Int32)) = 0 <;> simp [p1, p2, p3, p4]
theorem own_no {Z : State} {a0 : Array Value} (hw : ∀ d ∈ tables_1, d.before a0 Z = true) : ∃ c t, Z.vm.findClass "java/lang/Long" = some c ∧ Z.vm.findClass "com/example/slackwise/slackwise/replay/JobOutcome" = some t ∧ Z.vm.assignable c t = false := by
  have hch : ∀ w ∈ Jvm.Cond.chainWords ["java/lang/Long", "java/lang/Number", "java/lang/Object"], w.before a0 Z = true := by
    intro w h
    simp only [Jvm.Cond.chainWords, List.mem_cons, List.not_mem_nil, or_false] at h
    rcases h with rfl | rfl | rfl
    · exact (hw _ (List.mem_of_getElem? (i := 32) rfl))
    · exact (hw _ (List.mem_of_getElem? (i := 33) rfl))
    · exact (hw _ (List.mem_of_getElem? (i := 34) rfl))
  obtain ⟨t, kt, g1, g2, g3, g4, -⟩ := Jvm.Cond.instantiable_spec (show (Jvm.Cond.instantiable "com/example/slackwise/slackwise/replay/JobOutcome" 4).before a0 Z = true from (hw _ (List.mem_of_getElem? (i := 1) rfl)))
  obtain ⟨c, k, h1, h2, h3, h4⟩ := Jvm.Cond.chain_head hch
  simp only [Bool.or_eq_false_iff] at g4
  exact ⟨c, t, h1, g1, Jvm.Vm.notAssignable_of_chain h1 g1 g2 g3 g4.1 hch (by decide)⟩
theorem d1_0 : decode prog_94_method_1_code 0 = .ok (.aload_n 0, 1) := by decide +kernel
theorem d1_1 : decode prog_94_method_1_code 1 = .ok (.invokespecial 1, 3) := by decide +kernel
theorem d1_4 : decode prog_94_method_1_code 4 = .ok (.aload_n 0, 1) := by decide +kernel
theorem d1_5 : decode prog_94_method_1_code 5 = .ok (.lload_n 1, 1) := by decide +kernel
theorem d1_6 : decode prog_94_method_1_code 6 = .ok (.putfield 7, 3) := by decide +kernel
theorem d1_9 : decode prog_94_method_1_code 9 = .ok (.aload_n 0, 1) := by decide +kernel
theorem d1_10 : decode prog_94_method_1_code 10 = .ok (.iload_n 3, 1) := by decide +kernel
theorem d1_11 : decode prog_94_method_1_code 11 = .ok (.putfield 13, 3) := by decide +kernel
theorem d1_14 : decode prog_94_method_1_code 14 = .ok (.aload_n 0, 1) := by decide +kernel
theorem d1_15 : decode prog_94_method_1_code 15 = .ok (.lload 4, 2) := by decide +kernel
theorem d1_17 : decode prog_94_method_1_code 17 = .ok (.putfield 17, 3) := by decide +kernel
theorem d1_20 : decode prog_94_method_1_code 20 = .ok (.aload_n 0, 1) := by decide +kernel
theorem d1_21 : decode prog_94_method_1_code 21 = .ok (.lload 6, 2) := by decide +kernel
theorem d1_23 : decode prog_94_method_1_code 23 = .ok (.putfield 20, 3) := by decide +kernel
theorem d1_26 : decode prog_94_method_1_code 26 = .ok (.return_, 1) := by decide +kernel
theorem pn_com_example_slackwise_slackwise_replay_JobOutcome : plainName "com/example/slackwise/slackwise/replay/JobOutcome" = true := by first | (simp [plainName, overriddenIn]; done) | decide +kernel
theorem ef_rm1 (m : MethodId) (a0 : Addr) (x1 : Int64) (x2 : Int32) (x3 : Int64) (x4 : Int64) : entryFrame m #[(.ref a0), (.long x1), (.int x2), (.long x3), (.long x4)] 8 = (mkF m 0 #[.val (.ref a0), .val (.long x1), .second, .val (.int x2), .val (.long x3), .second, .val (.long x4), .second] []) := by first | (simp [entryFrame, mkF, argsToLocals, Value.category]; done) | rfl
def Q1 (Z : State) (a0 : Addr) (x1 : Int64) (x2 : Int32) (x3 : Int64) (x4 : Int64) (u_milliVcores : Value) (u_completed : Value) (u_waitS : Value) (u_completionS : Value) (h0 : Heap) (n0 : Nat) (v : Option Value) (h : Heap) (L : List Loc) : Prop := v = none ∧ Fr n0 L ∧ Keep h0 h [a0] ∧ Exa Z h a0 "com/example/slackwise/slackwise/replay/JobOutcome" ∧ Fld Z h a0 "com/example/slackwise/slackwise/replay/JobOutcome" "milliVcores" "J" (.long x1) ∧ Fld Z h a0 "com/example/slackwise/slackwise/replay/JobOutcome" "completed" "Z" (.int (nar .boolean x2)) ∧ Fld Z h a0 "com/example/slackwise/slackwise/replay/JobOutcome" "waitS" "J" (.long x3) ∧ Fld Z h a0 "com/example/slackwise/slackwise/replay/JobOutcome" "completionS" "J" (.long x4)
set_option maxRecDepth 65536 in
set_option maxHeartbeats 40000000 in
theorem rm1 (l : Launch) (Z : State) (aa : Array Value) (hw : ∀ d ∈ tables_1, d.before aa Z = true) (ws : List Jvm.Cond) (a0 : Addr) (x1 : Int64) (x2 : Int32) (x3 : Int64) (x4 : Int64) (u_milliVcores : Value) (u_completed : Value) (u_waitS : Value) (u_completionS : Value) (h0 : Heap) (n0 : Nat) (Z0 : n0 ≤ h0.size) (gn : n0 ≤ a0) (E0 : Exa Z h0 a0 "com/example/slackwise/slackwise/replay/JobOutcome") (F_milliVcores : Fld Z h0 a0 "com/example/slackwise/slackwise/replay/JobOutcome" "milliVcores" "J" u_milliVcores) (F_completed : Fld Z h0 a0 "com/example/slackwise/slackwise/replay/JobOutcome" "completed" "Z" u_completed) (F_waitS : Fld Z h0 a0 "com/example/slackwise/slackwise/replay/JobOutcome" "waitS" "J" u_waitS) (F_completionS : Fld Z h0 a0 "com/example/slackwise/slackwise/replay/JobOutcome" "completionS" "J" u_completionS) :
    MetFree l (⟨"com/example/slackwise/slackwise/replay/JobOutcome", "<init>", "(JZJJ)V"⟩ : MethodName) (head1 (Jvm.Cond.code (⟨"com/example/slackwise/slackwise/replay/JobOutcome", "<init>", "(JZJJ)V"⟩ : MethodName) prog_94_method_1_code 8 none :: ws) ({ frames := 1, cells := 0, slots := 0, locals := 12 } : Room)) (fun a U => a = #[(.ref a0), (.long x1), (.int x2), (.long x3), (.long x4)] ∧ Z.Warmed39 U.vm ∧ U.heap = h0) (fun _ _ _ _ _ => True) (fun _ U o U' => ∃ v L, o = .returned v ∧ Q1 Z a0 x1 x2 x3 x4 u_milliVcores u_completed u_waitS u_completionS h0 n0 v U'.heap L ∧ FrameEnd U o U' L ({ frames := 1, cells := 0, slots := 0, locals := 12 } : Room).cells ({ frames := 1, cells := 0, slots := 0, locals := 12 } : Room).slots) := by
  refine MetFree.of_bodySF (plainFor_of_name pn_com_example_slackwise_slackwise_replay_JobOutcome) hisR ?_
  intro p e s m args below meth c s₁ Bd hml0 hP hK
  obtain ⟨rfl, hZ, hh⟩ := hP
  have hx := Bd.exec
  have hby := Bd.bytes
  have hml : c.maxLocals = 8 := hml0
  have hown : s.vm.findClass "com/example/slackwise/slackwise/replay/JobOutcome" = some m.cls := findClass_of_methodNamed Bd.named
  have hnm := (name_of_methodNamed Bd.named Bd.method).1
  have X0 : Stand p l e ({ frames := 1, cells := 0, slots := 0, locals := 12 } : Room) s m #[(.ref a0), (.long x1), (.int x2), (.long x3), (.long x4)] below meth c s₁ [] 0 0 := Stand.of_body Bd
  have e0 : s₁.heap = h0 := by rw [← hh, Bd.state]; rfl
  have N0 := Fr.nil n0
  obtain ⟨G0, hG0⟩ : ∃ G, G = s₁.setTop (entryFrame m #[(.ref a0), (.long x1), (.int x2), (.long x3), (.long x4)] 8) := ⟨_, rfl⟩
  have K0 : ∀ t, Steps p.tables e below (s₁.setTop (mkF m 0 #[.val (.ref a0), .val (.long x1), .second, .val (.int x2), .val (.long x3), .second, .val (.long x4), .second] [])) t → Steps p.tables e below G0 t := fun t k => by rw [hG0]; exact castTop (ef_rm1 m a0 x1 x2 x3 x4) k
  have KP1 := Keep.refl h0 [a0]
  have K2 : ∀ t, Steps p.tables e below (s₁.setTop (mkF m 1 #[.val (.ref a0), .val (.long x1), .second, .val (.int x2), .val (.long x3), .second, .val (.long x4), .second] [(.ref a0)])) t → Steps p.tables e below G0 t := by
    intro t kt
    refine K0 t ?_
    refine XS.aloadN X0.here hx rfl (hb hby d1_0) rfl rfl ?_
    show Steps p.tables e below (s₁.setTop (mkF m 1 #[.val (.ref a0), .val (.long x1), .second, .val (.int x2), .val (.long x3), .second, .val (.long x4), .second] [(.ref a0)])) _
    exact kt
  obtain ⟨T3, X3, e3, st3⟩ := initO X0 hx hZ hown (hw _ (List.mem_of_getElem? (i := 6) rfl)) (hw _ (List.mem_of_getElem? (i := 7) rfl)) (hw _ (List.mem_of_getElem? (i := 8) rfl)) e0 (g := (mkF m 1 #[.val (.ref a0), .val (.long x1), .second, .val (.int x2), .val (.long x3), .second, .val (.long x4), .second] [(.ref a0)])) rfl (by rw [hml]; rfl) rfl (hb hby d1_1) (by decide) (W := 0) (by show 2 * 0 + _ ≤ _; exact Nat.le_of_eq rfl) (by decide)
  have K3 : ∀ t, Steps p.tables e below (T3.setTop (mkF m 4 #[.val (.ref a0), .val (.long x1), .second, .val (.int x2), .val (.long x3), .second, .val (.long x4), .second] [])) t → Steps p.tables e below G0 t := fun t kt => K2 t (st3 _ kt)
  have K4 : ∀ t, Steps p.tables e below (T3.setTop (mkF m 6 #[.val (.ref a0), .val (.long x1), .second, .val (.int x2), .val (.long x3), .second, .val (.long x4), .second] [(.long x1), (.ref a0)])) t → Steps p.tables e below G0 t := by
    intro t kt
    refine K3 t ?_
    refine XS.aloadN X3.here hx rfl (hb hby d1_4) rfl rfl ?_
    show Steps p.tables e below (T3.setTop (mkF m 5 #[.val (.ref a0), .val (.long x1), .second, .val (.int x2), .val (.long x3), .second, .val (.long x4), .second] [(.ref a0)])) _
    refine XS.lloadN X3.here hx rfl (hb hby d1_5) rfl ?_
    show Steps p.tables e below (T3.setTop (mkF m 6 #[.val (.ref a0), .val (.long x1), .second, .val (.int x2), .val (.long x3), .second, .val (.long x4), .second] [(.long x1), (.ref a0)])) _
    exact kt
  obtain ⟨T5, h5, X5, e5, W5, st5⟩ := putF X3 hx hZ hown (host := "") (Or.inl (hw _ (List.mem_of_getElem? (i := 9) rfl))) Via.refl e3 F_milliVcores E0 (Or.inr ⟨(hw _ (List.mem_of_getElem? (i := 10) rfl)), rfl, hnm⟩) (hw _ (List.mem_of_getElem? (i := 1) rfl)) (ty := .long) (by decide) rfl rfl (g := (mkF m 6 #[.val (.ref a0), .val (.long x1), .second, .val (.int x2), .val (.long x3), .second, .val (.long x4), .second] [(.long x1), (.ref a0)])) rfl rfl (hb hby d1_6)
  have K5 : ∀ t, Steps p.tables e below (T5.setTop (mkF m 9 #[.val (.ref a0), .val (.long x1), .second, .val (.int x2), .val (.long x3), .second, .val (.long x4), .second] [])) t → Steps p.tables e below G0 t := fun t kt => K4 t (st5 _ kt)
  have Fw5 := (F_milliVcores).same W5
  have N5 := Fr.snoc X5 N0 gn
  have Z5 : n0 ≤ h5.size := Nat.le_trans Z0 (Keep.of_wr W5).1
  have KP5 := KP1.wr W5 (Or.inl (List.mem_of_getElem? (i := 0) rfl))
  have K6 : ∀ t, Steps p.tables e below (T5.setTop (mkF m 11 #[.val (.ref a0), .val (.long x1), .second, .val (.int x2), .val (.long x3), .second, .val (.long x4), .second] [(.int x2), (.ref a0)])) t → Steps p.tables e below G0 t := by
    intro t kt
    refine K5 t ?_
    refine XS.aloadN X5.here hx rfl (hb hby d1_9) rfl rfl ?_
    show Steps p.tables e below (T5.setTop (mkF m 10 #[.val (.ref a0), .val (.long x1), .second, .val (.int x2), .val (.long x3), .second, .val (.long x4), .second] [(.ref a0)])) _
    refine XS.iloadN X5.here hx rfl (hb hby d1_10) rfl ?_
    show Steps p.tables e below (T5.setTop (mkF m 11 #[.val (.ref a0), .val (.long x1), .second, .val (.int x2), .val (.long x3), .second, .val (.long x4), .second] [(.int x2), (.ref a0)])) _
    exact kt
  have f7 := (F_completed.other W5 (Or.inr (slot_ne (Or.inr (hw _ (List.mem_of_getElem? (i := 12) rfl))) (Or.inr (hw _ (List.mem_of_getElem? (i := 10) rfl))) (by decide) (t := .boolean) (t' := .long) (by decide) (by decide))))
  have f8 := (E0.wr W5)
  obtain ⟨T9, h9, X9, e9, W9, st9⟩ := putFN X5 hx hZ hown (hw _ (List.mem_of_getElem? (i := 11) rfl)) Via.refl e5 f7 f8 (Or.inr ⟨(hw _ (List.mem_of_getElem? (i := 12) rfl)), rfl, hnm⟩) (hw _ (List.mem_of_getElem? (i := 1) rfl)) (ty := .boolean) (v' := (.int (nar .boolean x2))) (by decide) rfl (fits_nar_bool _) (g := (mkF m 11 #[.val (.ref a0), .val (.long x1), .second, .val (.int x2), .val (.long x3), .second, .val (.long x4), .second] [(.int x2), (.ref a0)])) rfl rfl (hb hby d1_11)
  have K9 : ∀ t, Steps p.tables e below (T9.setTop (mkF m 14 #[.val (.ref a0), .val (.long x1), .second, .val (.int x2), .val (.long x3), .second, .val (.long x4), .second] [])) t → Steps p.tables e below G0 t := fun t kt => K6 t (st9 _ kt)
  have Fw9 := (f7).same W9
  have N9 := Fr.snoc X9 N5 gn
  have Z9 : n0 ≤ h9.size := Nat.le_trans Z5 (Keep.of_wr W9).1
  have KP9 := KP5.wr W9 (Or.inl (List.mem_of_getElem? (i := 0) rfl))
  have K10 : ∀ t, Steps p.tables e below (T9.setTop (mkF m 17 #[.val (.ref a0), .val (.long x1), .second, .val (.int x2), .val (.long x3), .second, .val (.long x4), .second] [(.long x3), (.ref a0)])) t → Steps p.tables e below G0 t := by
    intro t kt
    refine K9 t ?_
    refine XS.aloadN X9.here hx rfl (hb hby d1_14) rfl rfl ?_
    show Steps p.tables e below (T9.setTop (mkF m 15 #[.val (.ref a0), .val (.long x1), .second, .val (.int x2), .val (.long x3), .second, .val (.long x4), .second] [(.ref a0)])) _
    refine XS.lload X9.here hx rfl (hb hby d1_15) rfl ?_
    show Steps p.tables e below (T9.setTop (mkF m 17 #[.val (.ref a0), .val (.long x1), .second, .val (.int x2), .val (.long x3), .second, .val (.long x4), .second] [(.long x3), (.ref a0)])) _
    exact kt
  have f11 := ((F_waitS.other W5 (Or.inr (slot_ne (Or.inr (hw _ (List.mem_of_getElem? (i := 14) rfl))) (Or.inr (hw _ (List.mem_of_getElem? (i := 10) rfl))) (by decide) (t := .long) (t' := .long) (by decide) (by decide)))).other W9 (Or.inr (slot_ne (Or.inr (hw _ (List.mem_of_getElem? (i := 14) rfl))) (Or.inr (hw _ (List.mem_of_getElem? (i := 12) rfl))) (by decide) (t := .long) (t' := .boolean) (by decide) (by decide))))
  have f12 := (f8.wr W9)
  obtain ⟨T13, h13, X13, e13, W13, st13⟩ := putF X9 hx hZ hown (host := "") (Or.inl (hw _ (List.mem_of_getElem? (i := 13) rfl))) Via.refl e9 f11 f12 (Or.inr ⟨(hw _ (List.mem_of_getElem? (i := 14) rfl)), rfl, hnm⟩) (hw _ (List.mem_of_getElem? (i := 1) rfl)) (ty := .long) (by decide) rfl rfl (g := (mkF m 17 #[.val (.ref a0), .val (.long x1), .second, .val (.int x2), .val (.long x3), .second, .val (.long x4), .second] [(.long x3), (.ref a0)])) rfl rfl (hb hby d1_17)
  have K13 : ∀ t, Steps p.tables e below (T13.setTop (mkF m 20 #[.val (.ref a0), .val (.long x1), .second, .val (.int x2), .val (.long x3), .second, .val (.long x4), .second] [])) t → Steps p.tables e below G0 t := fun t kt => K10 t (st13 _ kt)
  have Fw13 := (f11).same W13
  have N13 := Fr.snoc X13 N9 gn
  have Z13 : n0 ≤ h13.size := Nat.le_trans Z9 (Keep.of_wr W13).1
  have KP13 := KP9.wr W13 (Or.inl (List.mem_of_getElem? (i := 0) rfl))
  have K14 : ∀ t, Steps p.tables e below (T13.setTop (mkF m 23 #[.val (.ref a0), .val (.long x1), .second, .val (.int x2), .val (.long x3), .second, .val (.long x4), .second] [(.long x4), (.ref a0)])) t → Steps p.tables e below G0 t := by
    intro t kt
    refine K13 t ?_
    refine XS.aloadN X13.here hx rfl (hb hby d1_20) rfl rfl ?_
    show Steps p.tables e below (T13.setTop (mkF m 21 #[.val (.ref a0), .val (.long x1), .second, .val (.int x2), .val (.long x3), .second, .val (.long x4), .second] [(.ref a0)])) _
    refine XS.lload X13.here hx rfl (hb hby d1_21) rfl ?_
    show Steps p.tables e below (T13.setTop (mkF m 23 #[.val (.ref a0), .val (.long x1), .second, .val (.int x2), .val (.long x3), .second, .val (.long x4), .second] [(.long x4), (.ref a0)])) _
    exact kt
  have f15 := (((F_completionS.other W5 (Or.inr (slot_ne (Or.inr (hw _ (List.mem_of_getElem? (i := 16) rfl))) (Or.inr (hw _ (List.mem_of_getElem? (i := 10) rfl))) (by decide) (t := .long) (t' := .long) (by decide) (by decide)))).other W9 (Or.inr (slot_ne (Or.inr (hw _ (List.mem_of_getElem? (i := 16) rfl))) (Or.inr (hw _ (List.mem_of_getElem? (i := 12) rfl))) (by decide) (t := .long) (t' := .boolean) (by decide) (by decide)))).other W13 (Or.inr (slot_ne (Or.inr (hw _ (List.mem_of_getElem? (i := 16) rfl))) (Or.inr (hw _ (List.mem_of_getElem? (i := 14) rfl))) (by decide) (t := .long) (t' := .long) (by decide) (by decide))))
  have f16 := (f12.wr W13)
  obtain ⟨T17, h17, X17, e17, W17, st17⟩ := putF X13 hx hZ hown (host := "") (Or.inl (hw _ (List.mem_of_getElem? (i := 15) rfl))) Via.refl e13 f15 f16 (Or.inr ⟨(hw _ (List.mem_of_getElem? (i := 16) rfl)), rfl, hnm⟩) (hw _ (List.mem_of_getElem? (i := 1) rfl)) (ty := .long) (by decide) rfl rfl (g := (mkF m 23 #[.val (.ref a0), .val (.long x1), .second, .val (.int x2), .val (.long x3), .second, .val (.long x4), .second] [(.long x4), (.ref a0)])) rfl rfl (hb hby d1_23)
  have K17 : ∀ t, Steps p.tables e below (T17.setTop (mkF m 26 #[.val (.ref a0), .val (.long x1), .second, .val (.int x2), .val (.long x3), .second, .val (.long x4), .second] [])) t → Steps p.tables e below G0 t := fun t kt => K14 t (st17 _ kt)
  have Fw17 := (f15).same W17
  have N17 := Fr.snoc X17 N13 gn
  have Z17 : n0 ≤ h17.size := Nat.le_trans Z13 (Keep.of_wr W17).1
  have KP17 := KP13.wr W17 (Or.inl (List.mem_of_getElem? (i := 0) rfl))
  have f18 := (f16.wr W17)
  have f19 := (((Fw5.other W9 (Or.inr (slot_ne (Or.inr (hw _ (List.mem_of_getElem? (i := 10) rfl))) (Or.inr (hw _ (List.mem_of_getElem? (i := 12) rfl))) (by decide) (t := .long) (t' := .boolean) (by decide) (by decide)))).other W13 (Or.inr (slot_ne (Or.inr (hw _ (List.mem_of_getElem? (i := 10) rfl))) (Or.inr (hw _ (List.mem_of_getElem? (i := 14) rfl))) (by decide) (t := .long) (t' := .long) (by decide) (by decide)))).other W17 (Or.inr (slot_ne (Or.inr (hw _ (List.mem_of_getElem? (i := 10) rfl))) (Or.inr (hw _ (List.mem_of_getElem? (i := 16) rfl))) (by decide) (t := .long) (t' := .long) (by decide) (by decide))))
  have f20 := ((Fw9.other W13 (Or.inr (slot_ne (Or.inr (hw _ (List.mem_of_getElem? (i := 12) rfl))) (Or.inr (hw _ (List.mem_of_getElem? (i := 14) rfl))) (by decide) (t := .boolean) (t' := .long) (by decide) (by decide)))).other W17 (Or.inr (slot_ne (Or.inr (hw _ (List.mem_of_getElem? (i := 12) rfl))) (Or.inr (hw _ (List.mem_of_getElem? (i := 16) rfl))) (by decide) (t := .boolean) (t' := .long) (by decide) (by decide))))
  have f21 := (Fw13.other W17 (Or.inr (slot_ne (Or.inr (hw _ (List.mem_of_getElem? (i := 14) rfl))) (Or.inr (hw _ (List.mem_of_getElem? (i := 16) rfl))) (by decide) (t := .long) (t' := .long) (by decide) (by decide))))
  obtain ⟨fs, hr, hrun, hended, hW, hsame⟩ := X17.leave (v := none) (fun _ => rfl)
  refine ⟨_, _, ?_, hrun, hended, _, _, rfl, ?_, ⟨_, rfl⟩, hW, hsame.mono (by decide) (by decide)⟩
  · rw [← hG0]
    refine K17 _ ?_
    exact X17.returnOut hx Bd.returns (hb hby d1_26) hr
  · show Q1 Z a0 x1 x2 x3 x4 u_milliVcores u_completed u_waitS u_completionS h0 n0 _ T17.heap _
    rw [e17]
    exact ⟨rfl, N17, KP17, f18, f19, f20, f21, Fw17⟩
theorem d3_0 : decode prog_94_method_6_code 0 = .ok (.aload_n 1, 1) := by decide +kernel
theorem d3_1 : decode prog_94_method_6_code 1 = .ok (.instanceof 8, 3) := by decide +kernel
theorem d3_4 : decode prog_94_method_6_code 4 = .ok (.ifCond .ne 5, 3) := by decide +kernel
theorem d3_7 : decode prog_94_method_6_code 7 = .ok (.iconst 0, 1) := by decide +kernel
theorem d3_8 : decode prog_94_method_6_code 8 = .ok (.ireturn, 1) := by decide +kernel
theorem d3_9 : decode prog_94_method_6_code 9 = .ok (.aload_n 1, 1) := by decide +kernel
theorem d3_10 : decode prog_94_method_6_code 10 = .ok (.checkcast 8, 3) := by decide +kernel
theorem d3_13 : decode prog_94_method_6_code 13 = .ok (.astore_n 2, 1) := by decide +kernel
theorem d3_14 : decode prog_94_method_6_code 14 = .ok (.aload_n 0, 1) := by decide +kernel
theorem d3_15 : decode prog_94_method_6_code 15 = .ok (.getfield 7, 3) := by decide +kernel
theorem d3_18 : decode prog_94_method_6_code 18 = .ok (.aload_n 2, 1) := by decide +kernel
theorem d3_19 : decode prog_94_method_6_code 19 = .ok (.getfield 7, 3) := by decide +kernel
theorem d3_22 : decode prog_94_method_6_code 22 = .ok (.lcmp, 1) := by decide +kernel
theorem d3_23 : decode prog_94_method_6_code 23 = .ok (.ifCond .ne 42, 3) := by decide +kernel
theorem d3_26 : decode prog_94_method_6_code 26 = .ok (.aload_n 0, 1) := by decide +kernel
theorem d3_27 : decode prog_94_method_6_code 27 = .ok (.getfield 13, 3) := by decide +kernel
theorem d3_30 : decode prog_94_method_6_code 30 = .ok (.aload_n 2, 1) := by decide +kernel
theorem d3_31 : decode prog_94_method_6_code 31 = .ok (.getfield 13, 3) := by decide +kernel
theorem d3_34 : decode prog_94_method_6_code 34 = .ok (.if_icmp .ne 31, 3) := by decide +kernel
theorem d3_37 : decode prog_94_method_6_code 37 = .ok (.aload_n 0, 1) := by decide +kernel
theorem d3_38 : decode prog_94_method_6_code 38 = .ok (.getfield 17, 3) := by decide +kernel
theorem d3_41 : decode prog_94_method_6_code 41 = .ok (.aload_n 2, 1) := by decide +kernel
theorem d3_42 : decode prog_94_method_6_code 42 = .ok (.getfield 17, 3) := by decide +kernel
theorem d3_45 : decode prog_94_method_6_code 45 = .ok (.lcmp, 1) := by decide +kernel
theorem d3_46 : decode prog_94_method_6_code 46 = .ok (.ifCond .ne 19, 3) := by decide +kernel
theorem d3_49 : decode prog_94_method_6_code 49 = .ok (.aload_n 0, 1) := by decide +kernel
theorem d3_50 : decode prog_94_method_6_code 50 = .ok (.getfield 20, 3) := by decide +kernel
theorem d3_53 : decode prog_94_method_6_code 53 = .ok (.aload_n 2, 1) := by decide +kernel
theorem d3_54 : decode prog_94_method_6_code 54 = .ok (.getfield 20, 3) := by decide +kernel
theorem d3_57 : decode prog_94_method_6_code 57 = .ok (.lcmp, 1) := by decide +kernel
theorem d3_58 : decode prog_94_method_6_code 58 = .ok (.ifCond .ne 7, 3) := by decide +kernel
theorem d3_61 : decode prog_94_method_6_code 61 = .ok (.iconst 1, 1) := by decide +kernel
theorem d3_62 : decode prog_94_method_6_code 62 = .ok (.goto 4, 3) := by decide +kernel
theorem d3_65 : decode prog_94_method_6_code 65 = .ok (.iconst 0, 1) := by decide +kernel
theorem d3_66 : decode prog_94_method_6_code 66 = .ok (.ireturn, 1) := by decide +kernel
theorem ef_rm3 (m : MethodId) (a0 : Addr) (a1 : Addr) : entryFrame m #[(.ref a0), (.ref a1)] 3 = (mkF m 0 #[.val (.ref a0), .val (.ref a1), .unset] []) := by first | (simp [entryFrame, mkF, argsToLocals, Value.category]; done) | rfl
def Q3 (Z : State) (a0 : Addr) (a1 : Addr) (u0 : Int64) (u1 : Int32) (u2 : Int64) (u3 : Int64) (v0 : Int64) (v1 : Int32) (v2 : Int64) (v3 : Int64) (h0 : Heap) (n0 : Nat) (v : Option Value) (h : Heap) (L : List Loc) : Prop := v = some (.int (own_e u0 v0 u1 v1 u2 v2 u3 v3)) ∧ Fr n0 L ∧ h = h0
set_option maxRecDepth 65536 in
set_option maxHeartbeats 40000000 in
theorem rm3 (l : Launch) (Z : State) (aa : Array Value) (hw : ∀ d ∈ tables_1, d.before aa Z = true) (ws : List Jvm.Cond) (a0 : Addr) (a1 : Addr) (u0 : Int64) (u1 : Int32) (u2 : Int64) (u3 : Int64) (v0 : Int64) (v1 : Int32) (v2 : Int64) (v3 : Int64) (h0 : Heap) (n0 : Nat) (Z0 : n0 ≤ h0.size) (Fu0 : Fld Z h0 a0 "com/example/slackwise/slackwise/replay/JobOutcome" "milliVcores" "J" (.long u0)) (Fu1 : Fld Z h0 a0 "com/example/slackwise/slackwise/replay/JobOutcome" "completed" "Z" (.int u1)) (Fu2 : Fld Z h0 a0 "com/example/slackwise/slackwise/replay/JobOutcome" "waitS" "J" (.long u2)) (Fu3 : Fld Z h0 a0 "com/example/slackwise/slackwise/replay/JobOutcome" "completionS" "J" (.long u3)) (Fv0 : Fld Z h0 a1 "com/example/slackwise/slackwise/replay/JobOutcome" "milliVcores" "J" (.long v0)) (Fv1 : Fld Z h0 a1 "com/example/slackwise/slackwise/replay/JobOutcome" "completed" "Z" (.int v1)) (Fv2 : Fld Z h0 a1 "com/example/slackwise/slackwise/replay/JobOutcome" "waitS" "J" (.long v2)) (Fv3 : Fld Z h0 a1 "com/example/slackwise/slackwise/replay/JobOutcome" "completionS" "J" (.long v3)) (E1 : Exa Z h0 a1 "com/example/slackwise/slackwise/replay/JobOutcome") :
    MetFree l (⟨"com/example/slackwise/slackwise/replay/JobOutcome", "equals", "(Ljava/lang/Object;)Z"⟩ : MethodName) (head1 (Jvm.Cond.code (⟨"com/example/slackwise/slackwise/replay/JobOutcome", "equals", "(Ljava/lang/Object;)Z"⟩ : MethodName) prog_94_method_6_code 3 (some .boolean) :: ws) ({ frames := 0, cells := 0, slots := 0, locals := 0 } : Room)) (fun a U => a = #[(.ref a0), (.ref a1)] ∧ Z.Warmed39 U.vm ∧ U.heap = h0) (fun _ _ _ _ _ => True) (fun _ U o U' => ∃ v L, o = .returned v ∧ Q3 Z a0 a1 u0 u1 u2 u3 v0 v1 v2 v3 h0 n0 v U'.heap L ∧ FrameEnd U o U' L ({ frames := 0, cells := 0, slots := 0, locals := 0 } : Room).cells ({ frames := 0, cells := 0, slots := 0, locals := 0 } : Room).slots) := by
  refine MetFree.of_bodySF (plainFor_of_name pn_com_example_slackwise_slackwise_replay_JobOutcome) hisR ?_
  intro p e s m args below meth c s₁ Bd hml0 hP hK
  obtain ⟨rfl, hZ, hh⟩ := hP
  have hx := Bd.exec
  have hby := Bd.bytes
  have hml : c.maxLocals = 3 := hml0
  have hown : s.vm.findClass "com/example/slackwise/slackwise/replay/JobOutcome" = some m.cls := findClass_of_methodNamed Bd.named
  have hnm := (name_of_methodNamed Bd.named Bd.method).1
  have X0 : Stand p l e ({ frames := 0, cells := 0, slots := 0, locals := 0 } : Room) s m #[(.ref a0), (.ref a1)] below meth c s₁ [] 0 0 := Stand.of_body Bd
  have e0 : s₁.heap = h0 := by rw [← hh, Bd.state]; rfl
  have N0 := Fr.nil n0
  obtain ⟨G0, hG0⟩ : ∃ G, G = s₁.setTop (entryFrame m #[(.ref a0), (.ref a1)] 3) := ⟨_, rfl⟩
  have K0 : ∀ t, Steps p.tables e below (s₁.setTop (mkF m 0 #[.val (.ref a0), .val (.ref a1), .unset] [])) t → Steps p.tables e below G0 t := fun t k => by rw [hG0]; exact castTop (ef_rm3 m a0 a1) k
  have K1 : ∀ t, Steps p.tables e below (s₁.setTop (mkF m 1 #[.val (.ref a0), .val (.ref a1), .unset] [(.ref a1)])) t → Steps p.tables e below G0 t := by
    intro t kt
    refine K0 t ?_
    refine XS.aloadN X0.here hx rfl (hb hby d3_0) rfl rfl ?_
    show Steps p.tables e below (s₁.setTop (mkF m 1 #[.val (.ref a0), .val (.ref a1), .unset] [(.ref a1)])) _
    exact kt
  obtain ⟨T2, X2, e2, st2⟩ := instY X0 hx hZ hown (hw _ (List.mem_of_getElem? (i := 22) rfl)) e0 (Ins.self E1) (g := (mkF m 1 #[.val (.ref a0), .val (.ref a1), .unset] [(.ref a1)])) rfl rfl (hb hby d3_1)
  have K2 : ∀ t, Steps p.tables e below (T2.setTop (mkF m 4 #[.val (.ref a0), .val (.ref a1), .unset] [(.int (1 : Int32))])) t → Steps p.tables e below G0 t := fun t kt => K1 t (st2 _ kt)
  have K3 : ∀ t, Steps p.tables e below (T2.setTop (mkF m 10 #[.val (.ref a0), .val (.ref a1), .unset] [(.ref a1)])) t → Steps p.tables e below G0 t := by
    intro t kt
    refine K2 t ?_
    refine XS.ifYes X2.here hx rfl (pc0 := 4) (pc' := 9) rfl (hb hby d3_4) rfl ((if0 _ _).trans (feq (by decide)).2) (by decide) (by decide) ?_
    show Steps p.tables e below (T2.setTop (mkF m 9 #[.val (.ref a0), .val (.ref a1), .unset] [])) _
    refine XS.aloadN X2.here hx rfl (hb hby d3_9) rfl rfl ?_
    show Steps p.tables e below (T2.setTop (mkF m 10 #[.val (.ref a0), .val (.ref a1), .unset] [(.ref a1)])) _
    exact kt
  obtain ⟨T4, X4, e4, st4⟩ := castY X2 hx hZ hown (hw _ (List.mem_of_getElem? (i := 22) rfl)) e2 (Ins.self E1) (g := (mkF m 10 #[.val (.ref a0), .val (.ref a1), .unset] [(.ref a1)])) rfl rfl (hb hby d3_10)
  have K4 : ∀ t, Steps p.tables e below (T4.setTop (mkF m 13 #[.val (.ref a0), .val (.ref a1), .unset] [(.ref a1)])) t → Steps p.tables e below G0 t := fun t kt => K3 t (st4 _ kt)
  have K5 : ∀ t, Steps p.tables e below (T4.setTop (mkF m 15 #[.val (.ref a0), .val (.ref a1), .val (.ref a1)] [(.ref a0)])) t → Steps p.tables e below G0 t := by
    intro t kt
    refine K4 t ?_
    refine XS.astoreN X4.here hx rfl (hb hby d3_13) rfl rfl (l' := #[.val (.ref a0), .val (.ref a1), .val (.ref a1)]) rfl ?_
    show Steps p.tables e below (T4.setTop (mkF m 14 #[.val (.ref a0), .val (.ref a1), .val (.ref a1)] [])) _
    refine XS.aloadN X4.here hx rfl (hb hby d3_14) rfl rfl ?_
    show Steps p.tables e below (T4.setTop (mkF m 15 #[.val (.ref a0), .val (.ref a1), .val (.ref a1)] [(.ref a0)])) _
    exact kt
  obtain ⟨T6, X6, e6, st6⟩ := getF X4 hx hZ hown (host := "") (Or.inl (hw _ (List.mem_of_getElem? (i := 9) rfl))) Via.refl e4 Fu0 (g := (mkF m 15 #[.val (.ref a0), .val (.ref a1), .val (.ref a1)] [(.ref a0)])) rfl rfl (hb hby d3_15)
  have K6 : ∀ t, Steps p.tables e below (T6.setTop (mkF m 18 #[.val (.ref a0), .val (.ref a1), .val (.ref a1)] [(.long u0)])) t → Steps p.tables e below G0 t := fun t kt => K5 t (st6 _ kt)
  have K7 : ∀ t, Steps p.tables e below (T6.setTop (mkF m 19 #[.val (.ref a0), .val (.ref a1), .val (.ref a1)] [(.ref a1), (.long u0)])) t → Steps p.tables e below G0 t := by
    intro t kt
    refine K6 t ?_
    refine XS.aloadN X6.here hx rfl (hb hby d3_18) rfl rfl ?_
    show Steps p.tables e below (T6.setTop (mkF m 19 #[.val (.ref a0), .val (.ref a1), .val (.ref a1)] [(.ref a1), (.long u0)])) _
    exact kt
  obtain ⟨T8, X8, e8, st8⟩ := getF X6 hx hZ hown (host := "") (Or.inl (hw _ (List.mem_of_getElem? (i := 9) rfl))) Via.refl e6 Fv0 (g := (mkF m 19 #[.val (.ref a0), .val (.ref a1), .val (.ref a1)] [(.ref a1), (.long u0)])) rfl rfl (hb hby d3_19)
  have K8 : ∀ t, Steps p.tables e below (T8.setTop (mkF m 22 #[.val (.ref a0), .val (.ref a1), .val (.ref a1)] [(.long v0), (.long u0)])) t → Steps p.tables e below G0 t := fun t kt => K7 t (st8 _ kt)
  have K9 : ∀ t, Steps p.tables e below (T8.setTop (mkF m 23 #[.val (.ref a0), .val (.ref a1), .val (.ref a1)] [(.int (lcmpW u0 v0))])) t → Steps p.tables e below G0 t := by
    intro t kt
    refine K8 t ?_
    refine XS.lcmp X8.here hx rfl (hb hby d3_22) rfl ?_
    show Steps p.tables e below (T8.setTop (mkF m 23 #[.val (.ref a0), .val (.ref a1), .val (.ref a1)] [(.int (lcmpW u0 v0))])) _
    exact kt
  by_cases hc10 : (lcmpW u0 v0) = (0 : Int32)
  ·
    have K11 : ∀ t, Steps p.tables e below (T8.setTop (mkF m 27 #[.val (.ref a0), .val (.ref a1), .val (.ref a1)] [(.ref a0)])) t → Steps p.tables e below G0 t := by
      intro t kt
      refine K9 t ?_
      refine XS.ifNo X8.here hx rfl (hb hby d3_23) rfl ((if0 _ _).trans (teq hc10).2) ?_
      show Steps p.tables e below (T8.setTop (mkF m 26 #[.val (.ref a0), .val (.ref a1), .val (.ref a1)] [])) _
      refine XS.aloadN X8.here hx rfl (hb hby d3_26) rfl rfl ?_
      show Steps p.tables e below (T8.setTop (mkF m 27 #[.val (.ref a0), .val (.ref a1), .val (.ref a1)] [(.ref a0)])) _
      exact kt
    obtain ⟨T12, X12, e12, st12⟩ := getF X8 hx hZ hown (host := "") (Or.inl (hw _ (List.mem_of_getElem? (i := 11) rfl))) Via.refl e8 Fu1 (g := (mkF m 27 #[.val (.ref a0), .val (.ref a1), .val (.ref a1)] [(.ref a0)])) rfl rfl (hb hby d3_27)
    have K12 : ∀ t, Steps p.tables e below (T12.setTop (mkF m 30 #[.val (.ref a0), .val (.ref a1), .val (.ref a1)] [(.int u1)])) t → Steps p.tables e below G0 t := fun t kt => K11 t (st12 _ kt)
    have K13 : ∀ t, Steps p.tables e below (T12.setTop (mkF m 31 #[.val (.ref a0), .val (.ref a1), .val (.ref a1)] [(.ref a1), (.int u1)])) t → Steps p.tables e below G0 t := by
      intro t kt
      refine K12 t ?_
      refine XS.aloadN X12.here hx rfl (hb hby d3_30) rfl rfl ?_
      show Steps p.tables e below (T12.setTop (mkF m 31 #[.val (.ref a0), .val (.ref a1), .val (.ref a1)] [(.ref a1), (.int u1)])) _
      exact kt
    obtain ⟨T14, X14, e14, st14⟩ := getF X12 hx hZ hown (host := "") (Or.inl (hw _ (List.mem_of_getElem? (i := 11) rfl))) Via.refl e12 Fv1 (g := (mkF m 31 #[.val (.ref a0), .val (.ref a1), .val (.ref a1)] [(.ref a1), (.int u1)])) rfl rfl (hb hby d3_31)
    have K14 : ∀ t, Steps p.tables e below (T14.setTop (mkF m 34 #[.val (.ref a0), .val (.ref a1), .val (.ref a1)] [(.int v1), (.int u1)])) t → Steps p.tables e below G0 t := fun t kt => K13 t (st14 _ kt)
    by_cases hc15 : u1 = v1
    ·
      have K16 : ∀ t, Steps p.tables e below (T14.setTop (mkF m 38 #[.val (.ref a0), .val (.ref a1), .val (.ref a1)] [(.ref a0)])) t → Steps p.tables e below G0 t := by
        intro t kt
        refine K14 t ?_
        refine XS.icmpNo X14.here hx rfl (hb hby d3_34) rfl (teq hc15).2 ?_
        show Steps p.tables e below (T14.setTop (mkF m 37 #[.val (.ref a0), .val (.ref a1), .val (.ref a1)] [])) _
        refine XS.aloadN X14.here hx rfl (hb hby d3_37) rfl rfl ?_
        show Steps p.tables e below (T14.setTop (mkF m 38 #[.val (.ref a0), .val (.ref a1), .val (.ref a1)] [(.ref a0)])) _
        exact kt
      obtain ⟨T17, X17, e17, st17⟩ := getF X14 hx hZ hown (host := "") (Or.inl (hw _ (List.mem_of_getElem? (i := 13) rfl))) Via.refl e14 Fu2 (g := (mkF m 38 #[.val (.ref a0), .val (.ref a1), .val (.ref a1)] [(.ref a0)])) rfl rfl (hb hby d3_38)
      have K17 : ∀ t, Steps p.tables e below (T17.setTop (mkF m 41 #[.val (.ref a0), .val (.ref a1), .val (.ref a1)] [(.long u2)])) t → Steps p.tables e below G0 t := fun t kt => K16 t (st17 _ kt)
      have K18 : ∀ t, Steps p.tables e below (T17.setTop (mkF m 42 #[.val (.ref a0), .val (.ref a1), .val (.ref a1)] [(.ref a1), (.long u2)])) t → Steps p.tables e below G0 t := by
        intro t kt
        refine K17 t ?_
        refine XS.aloadN X17.here hx rfl (hb hby d3_41) rfl rfl ?_
        show Steps p.tables e below (T17.setTop (mkF m 42 #[.val (.ref a0), .val (.ref a1), .val (.ref a1)] [(.ref a1), (.long u2)])) _
        exact kt
      obtain ⟨T19, X19, e19, st19⟩ := getF X17 hx hZ hown (host := "") (Or.inl (hw _ (List.mem_of_getElem? (i := 13) rfl))) Via.refl e17 Fv2 (g := (mkF m 42 #[.val (.ref a0), .val (.ref a1), .val (.ref a1)] [(.ref a1), (.long u2)])) rfl rfl (hb hby d3_42)
      have K19 : ∀ t, Steps p.tables e below (T19.setTop (mkF m 45 #[.val (.ref a0), .val (.ref a1), .val (.ref a1)] [(.long v2), (.long u2)])) t → Steps p.tables e below G0 t := fun t kt => K18 t (st19 _ kt)
      have K20 : ∀ t, Steps p.tables e below (T19.setTop (mkF m 46 #[.val (.ref a0), .val (.ref a1), .val (.ref a1)] [(.int (lcmpW u2 v2))])) t → Steps p.tables e below G0 t := by
        intro t kt
        refine K19 t ?_
        refine XS.lcmp X19.here hx rfl (hb hby d3_45) rfl ?_
        show Steps p.tables e below (T19.setTop (mkF m 46 #[.val (.ref a0), .val (.ref a1), .val (.ref a1)] [(.int (lcmpW u2 v2))])) _
        exact kt
      by_cases hc21 : (lcmpW u2 v2) = (0 : Int32)
      ·
        have K22 : ∀ t, Steps p.tables e below (T19.setTop (mkF m 50 #[.val (.ref a0), .val (.ref a1), .val (.ref a1)] [(.ref a0)])) t → Steps p.tables e below G0 t := by
          intro t kt
          refine K20 t ?_
          refine XS.ifNo X19.here hx rfl (hb hby d3_46) rfl ((if0 _ _).trans (teq hc21).2) ?_
          show Steps p.tables e below (T19.setTop (mkF m 49 #[.val (.ref a0), .val (.ref a1), .val (.ref a1)] [])) _
          refine XS.aloadN X19.here hx rfl (hb hby d3_49) rfl rfl ?_
          show Steps p.tables e below (T19.setTop (mkF m 50 #[.val (.ref a0), .val (.ref a1), .val (.ref a1)] [(.ref a0)])) _
          exact kt
        obtain ⟨T23, X23, e23, st23⟩ := getF X19 hx hZ hown (host := "") (Or.inl (hw _ (List.mem_of_getElem? (i := 15) rfl))) Via.refl e19 Fu3 (g := (mkF m 50 #[.val (.ref a0), .val (.ref a1), .val (.ref a1)] [(.ref a0)])) rfl rfl (hb hby d3_50)
        have K23 : ∀ t, Steps p.tables e below (T23.setTop (mkF m 53 #[.val (.ref a0), .val (.ref a1), .val (.ref a1)] [(.long u3)])) t → Steps p.tables e below G0 t := fun t kt => K22 t (st23 _ kt)
        have K24 : ∀ t, Steps p.tables e below (T23.setTop (mkF m 54 #[.val (.ref a0), .val (.ref a1), .val (.ref a1)] [(.ref a1), (.long u3)])) t → Steps p.tables e below G0 t := by
          intro t kt
          refine K23 t ?_
          refine XS.aloadN X23.here hx rfl (hb hby d3_53) rfl rfl ?_
          show Steps p.tables e below (T23.setTop (mkF m 54 #[.val (.ref a0), .val (.ref a1), .val (.ref a1)] [(.ref a1), (.long u3)])) _
          exact kt
        obtain ⟨T25, X25, e25, st25⟩ := getF X23 hx hZ hown (host := "") (Or.inl (hw _ (List.mem_of_getElem? (i := 15) rfl))) Via.refl e23 Fv3 (g := (mkF m 54 #[.val (.ref a0), .val (.ref a1), .val (.ref a1)] [(.ref a1), (.long u3)])) rfl rfl (hb hby d3_54)
        have K25 : ∀ t, Steps p.tables e below (T25.setTop (mkF m 57 #[.val (.ref a0), .val (.ref a1), .val (.ref a1)] [(.long v3), (.long u3)])) t → Steps p.tables e below G0 t := fun t kt => K24 t (st25 _ kt)
        have K26 : ∀ t, Steps p.tables e below (T25.setTop (mkF m 58 #[.val (.ref a0), .val (.ref a1), .val (.ref a1)] [(.int (lcmpW u3 v3))])) t → Steps p.tables e below G0 t := by
          intro t kt
          refine K25 t ?_
          refine XS.lcmp X25.here hx rfl (hb hby d3_57) rfl ?_
          show Steps p.tables e below (T25.setTop (mkF m 58 #[.val (.ref a0), .val (.ref a1), .val (.ref a1)] [(.int (lcmpW u3 v3))])) _
          exact kt
        by_cases hc27 : (lcmpW u3 v3) = (0 : Int32)
        ·
          have K28 : ∀ t, Steps p.tables e below (T25.setTop (mkF m 66 #[.val (.ref a0), .val (.ref a1), .val (.ref a1)] [(.int (1 : Int32))])) t → Steps p.tables e below G0 t := by
            intro t kt
            refine K26 t ?_
            refine XS.ifNo X25.here hx rfl (hb hby d3_58) rfl ((if0 _ _).trans (teq hc27).2) ?_
            show Steps p.tables e below (T25.setTop (mkF m 61 #[.val (.ref a0), .val (.ref a1), .val (.ref a1)] [])) _
            refine XS.iconst X25.here hx rfl (hb hby d3_61) ?_
            show Steps p.tables e below (T25.setTop (mkF m 62 #[.val (.ref a0), .val (.ref a1), .val (.ref a1)] [(.int (1 : Int32))])) _
            refine XS.goto X25.here hx rfl (pc0 := 62) (pc' := 66) rfl (hb hby d3_62) (by decide) (by decide) ?_
            show Steps p.tables e below (T25.setTop (mkF m 66 #[.val (.ref a0), .val (.ref a1), .val (.ref a1)] [(.int (1 : Int32))])) _
            exact kt
          obtain ⟨fs, hr, hrun, hended, hW, hsame⟩ := X25.leave (v := some (.int (1 : Int32))) (fun h => by rw [Bd.returns] at h; cases h)
          refine ⟨_, _, ?_, hrun, hended, _, _, rfl, ?_, ⟨_, rfl⟩, hW, hsame.mono (by decide) (by decide)⟩
          · rw [← hG0]
            refine K28 _ ?_
            exact retN X25 hx (t := .boolean) Bd.returns (by simp) (hb hby d3_66) hr
          · show Q3 Z a0 a1 u0 u1 u2 u3 v0 v1 v2 v3 h0 n0 _ T25.heap _
            rw [e25]
            exact ⟨by rw [own_e, if_pos hc10, if_pos hc15, if_pos hc21, if_pos hc27], N0, rfl⟩
        ·
          have K29 : ∀ t, Steps p.tables e below (T25.setTop (mkF m 66 #[.val (.ref a0), .val (.ref a1), .val (.ref a1)] [(.int (0 : Int32))])) t → Steps p.tables e below G0 t := by
            intro t kt
            refine K26 t ?_
            refine XS.ifYes X25.here hx rfl (pc0 := 58) (pc' := 65) rfl (hb hby d3_58) rfl ((if0 _ _).trans (feq hc27).2) (by decide) (by decide) ?_
            show Steps p.tables e below (T25.setTop (mkF m 65 #[.val (.ref a0), .val (.ref a1), .val (.ref a1)] [])) _
            refine XS.iconst X25.here hx rfl (hb hby d3_65) ?_
            show Steps p.tables e below (T25.setTop (mkF m 66 #[.val (.ref a0), .val (.ref a1), .val (.ref a1)] [(.int (0 : Int32))])) _
            exact kt
          obtain ⟨fs, hr, hrun, hended, hW, hsame⟩ := X25.leave (v := some (.int (0 : Int32))) (fun h => by rw [Bd.returns] at h; cases h)
          refine ⟨_, _, ?_, hrun, hended, _, _, rfl, ?_, ⟨_, rfl⟩, hW, hsame.mono (by decide) (by decide)⟩
          · rw [← hG0]
            refine K29 _ ?_
            exact retN X25 hx (t := .boolean) Bd.returns (by simp) (hb hby d3_66) hr
          · show Q3 Z a0 a1 u0 u1 u2 u3 v0 v1 v2 v3 h0 n0 _ T25.heap _
            rw [e25]
            exact ⟨by rw [own_e, if_pos hc10, if_pos hc15, if_pos hc21, if_neg hc27], N0, rfl⟩
      ·
        have K30 : ∀ t, Steps p.tables e below (T19.setTop (mkF m 66 #[.val (.ref a0), .val (.ref a1), .val (.ref a1)] [(.int (0 : Int32))])) t → Steps p.tables e below G0 t := by
          intro t kt
          refine K20 t ?_
          refine XS.ifYes X19.here hx rfl (pc0 := 46) (pc' := 65) rfl (hb hby d3_46) rfl ((if0 _ _).trans (feq hc21).2) (by decide) (by decide) ?_
          show Steps p.tables e below (T19.setTop (mkF m 65 #[.val (.ref a0), .val (.ref a1), .val (.ref a1)] [])) _
          refine XS.iconst X19.here hx rfl (hb hby d3_65) ?_
          show Steps p.tables e below (T19.setTop (mkF m 66 #[.val (.ref a0), .val (.ref a1), .val (.ref a1)] [(.int (0 : Int32))])) _
          exact kt
        obtain ⟨fs, hr, hrun, hended, hW, hsame⟩ := X19.leave (v := some (.int (0 : Int32))) (fun h => by rw [Bd.returns] at h; cases h)
        refine ⟨_, _, ?_, hrun, hended, _, _, rfl, ?_, ⟨_, rfl⟩, hW, hsame.mono (by decide) (by decide)⟩
        · rw [← hG0]
          refine K30 _ ?_
          exact retN X19 hx (t := .boolean) Bd.returns (by simp) (hb hby d3_66) hr
        · show Q3 Z a0 a1 u0 u1 u2 u3 v0 v1 v2 v3 h0 n0 _ T19.heap _
          rw [e19]
          exact ⟨by rw [own_e, if_pos hc10, if_pos hc15, if_neg hc21], N0, rfl⟩
    ·
      have K31 : ∀ t, Steps p.tables e below (T14.setTop (mkF m 66 #[.val (.ref a0), .val (.ref a1), .val (.ref a1)] [(.int (0 : Int32))])) t → Steps p.tables e below G0 t := by
        intro t kt
        refine K14 t ?_
        refine XS.icmpYes X14.here hx rfl (pc0 := 34) (pc' := 65) rfl (hb hby d3_34) rfl (feq hc15).2 (by decide) (by decide) ?_
        show Steps p.tables e below (T14.setTop (mkF m 65 #[.val (.ref a0), .val (.ref a1), .val (.ref a1)] [])) _
        refine XS.iconst X14.here hx rfl (hb hby d3_65) ?_
        show Steps p.tables e below (T14.setTop (mkF m 66 #[.val (.ref a0), .val (.ref a1), .val (.ref a1)] [(.int (0 : Int32))])) _
        exact kt
      obtain ⟨fs, hr, hrun, hended, hW, hsame⟩ := X14.leave (v := some (.int (0 : Int32))) (fun h => by rw [Bd.returns] at h; cases h)
      refine ⟨_, _, ?_, hrun, hended, _, _, rfl, ?_, ⟨_, rfl⟩, hW, hsame.mono (by decide) (by decide)⟩
      · rw [← hG0]
        refine K31 _ ?_
        exact retN X14 hx (t := .boolean) Bd.returns (by simp) (hb hby d3_66) hr
      · show Q3 Z a0 a1 u0 u1 u2 u3 v0 v1 v2 v3 h0 n0 _ T14.heap _
        rw [e14]
        exact ⟨by rw [own_e, if_pos hc10, if_neg hc15], N0, rfl⟩
  ·
    have K32 : ∀ t, Steps p.tables e below (T8.setTop (mkF m 66 #[.val (.ref a0), .val (.ref a1), .val (.ref a1)] [(.int (0 : Int32))])) t → Steps p.tables e below G0 t := by
      intro t kt
      refine K9 t ?_
      refine XS.ifYes X8.here hx rfl (pc0 := 23) (pc' := 65) rfl (hb hby d3_23) rfl ((if0 _ _).trans (feq hc10).2) (by decide) (by decide) ?_
      show Steps p.tables e below (T8.setTop (mkF m 65 #[.val (.ref a0), .val (.ref a1), .val (.ref a1)] [])) _
      refine XS.iconst X8.here hx rfl (hb hby d3_65) ?_
      show Steps p.tables e below (T8.setTop (mkF m 66 #[.val (.ref a0), .val (.ref a1), .val (.ref a1)] [(.int (0 : Int32))])) _
      exact kt
    obtain ⟨fs, hr, hrun, hended, hW, hsame⟩ := X8.leave (v := some (.int (0 : Int32))) (fun h => by rw [Bd.returns] at h; cases h)
    refine ⟨_, _, ?_, hrun, hended, _, _, rfl, ?_, ⟨_, rfl⟩, hW, hsame.mono (by decide) (by decide)⟩
    · rw [← hG0]
      refine K32 _ ?_
      exact retN X8 hx (t := .boolean) Bd.returns (by simp) (hb hby d3_66) hr
    · show Q3 Z a0 a1 u0 u1 u2 u3 v0 v1 v2 v3 h0 n0 _ T8.heap _
      rw [e8]
      exact ⟨by rw [own_e, if_neg hc10], N0, rfl⟩
theorem ef_rm3n (m : MethodId) (a0 : Addr) : entryFrame m #[(.ref a0), .null] 3 = (mkF m 0 #[.val (.ref a0), .val .null, .unset] []) := by first | (simp [entryFrame, mkF, argsToLocals, Value.category]; done) | rfl
def Q3n (Z : State) (a0 : Addr) (h0 : Heap) (n0 : Nat) (v : Option Value) (h : Heap) (L : List Loc) : Prop := v = some (.int 0) ∧ Fr n0 L ∧ h = h0
set_option maxRecDepth 65536 in
set_option maxHeartbeats 40000000 in
theorem rm3n (l : Launch) (Z : State) (aa : Array Value) (hw : ∀ d ∈ tables_1, d.before aa Z = true) (ws : List Jvm.Cond) (a0 : Addr) (h0 : Heap) (n0 : Nat) (Z0 : n0 ≤ h0.size) :
    MetFree l (⟨"com/example/slackwise/slackwise/replay/JobOutcome", "equals", "(Ljava/lang/Object;)Z"⟩ : MethodName) (head1 (Jvm.Cond.code (⟨"com/example/slackwise/slackwise/replay/JobOutcome", "equals", "(Ljava/lang/Object;)Z"⟩ : MethodName) prog_94_method_6_code 3 (some .boolean) :: ws) ({ frames := 0, cells := 0, slots := 0, locals := 0 } : Room)) (fun a U => a = #[(.ref a0), .null] ∧ Z.Warmed39 U.vm ∧ U.heap = h0) (fun _ _ _ _ _ => True) (fun _ U o U' => ∃ v L, o = .returned v ∧ Q3n Z a0 h0 n0 v U'.heap L ∧ FrameEnd U o U' L ({ frames := 0, cells := 0, slots := 0, locals := 0 } : Room).cells ({ frames := 0, cells := 0, slots := 0, locals := 0 } : Room).slots) := by
  refine MetFree.of_bodySF (plainFor_of_name pn_com_example_slackwise_slackwise_replay_JobOutcome) hisR ?_
  intro p e s m args below meth c s₁ Bd hml0 hP hK
  obtain ⟨rfl, hZ, hh⟩ := hP
  have hx := Bd.exec
  have hby := Bd.bytes
  have hml : c.maxLocals = 3 := hml0
  have hown : s.vm.findClass "com/example/slackwise/slackwise/replay/JobOutcome" = some m.cls := findClass_of_methodNamed Bd.named
  have hnm := (name_of_methodNamed Bd.named Bd.method).1
  have X0 : Stand p l e ({ frames := 0, cells := 0, slots := 0, locals := 0 } : Room) s m #[(.ref a0), .null] below meth c s₁ [] 0 0 := Stand.of_body Bd
  have e0 : s₁.heap = h0 := by rw [← hh, Bd.state]; rfl
  have N0 := Fr.nil n0
  obtain ⟨G0, hG0⟩ : ∃ G, G = s₁.setTop (entryFrame m #[(.ref a0), .null] 3) := ⟨_, rfl⟩
  have K0 : ∀ t, Steps p.tables e below (s₁.setTop (mkF m 0 #[.val (.ref a0), .val .null, .unset] [])) t → Steps p.tables e below G0 t := fun t k => by rw [hG0]; exact castTop (ef_rm3n m a0) k
  have K1 : ∀ t, Steps p.tables e below (s₁.setTop (mkF m 1 #[.val (.ref a0), .val .null, .unset] [.null])) t → Steps p.tables e below G0 t := by
    intro t kt
    refine K0 t ?_
    refine XS.aloadN X0.here hx rfl (hb hby d3_0) rfl rfl ?_
    show Steps p.tables e below (s₁.setTop (mkF m 1 #[.val (.ref a0), .val .null, .unset] [.null])) _
    exact kt
  have K2 : ∀ t, Steps p.tables e below (s₁.setTop (mkF m 8 #[.val (.ref a0), .val .null, .unset] [(.int (0 : Int32))])) t → Steps p.tables e below G0 t := by
    intro t kt
    refine K1 t ?_
    refine X0.instanceofNull hx (g := (mkF m 1 #[.val (.ref a0), .val .null, .unset] [.null])) rfl rfl (hb hby d3_1) _ ?_
    show Steps p.tables e below (s₁.setTop (mkF m 4 #[.val (.ref a0), .val .null, .unset] [(.int (0 : Int32))])) _
    refine XS.ifNo X0.here hx rfl (hb hby d3_4) rfl ((if0 _ _).trans (teq rfl).2) ?_
    show Steps p.tables e below (s₁.setTop (mkF m 7 #[.val (.ref a0), .val .null, .unset] [])) _
    refine XS.iconst X0.here hx rfl (hb hby d3_7) ?_
    show Steps p.tables e below (s₁.setTop (mkF m 8 #[.val (.ref a0), .val .null, .unset] [(.int (0 : Int32))])) _
    exact kt
  obtain ⟨fs, hr, hrun, hended, hW, hsame⟩ := X0.leave (v := some (.int (0 : Int32))) (fun h => by rw [Bd.returns] at h; cases h)
  refine ⟨_, _, ?_, hrun, hended, _, _, rfl, ?_, ⟨_, rfl⟩, hW, hsame.mono (by decide) (by decide)⟩
  · rw [← hG0]
    refine K2 _ ?_
    exact retN X0 hx (t := .boolean) Bd.returns (by simp) (hb hby d3_8) hr
  · show Q3n Z a0 h0 n0 _ s₁.heap _
    rw [e0]
    exact ⟨rfl, N0, rfl⟩
theorem ef_rm3l (m : MethodId) (a0 : Addr) (a1 : Addr) : entryFrame m #[(.ref a0), (.ref a1)] 3 = (mkF m 0 #[.val (.ref a0), .val (.ref a1), .unset] []) := by first | (simp [entryFrame, mkF, argsToLocals, Value.category]; done) | rfl
def Q3l (Z : State) (a0 : Addr) (a1 : Addr) (h0 : Heap) (n0 : Nat) (v : Option Value) (h : Heap) (L : List Loc) : Prop := v = some (.int 0) ∧ Fr n0 L ∧ h = h0
set_option maxRecDepth 65536 in
set_option maxHeartbeats 40000000 in
theorem rm3l (l : Launch) (Z : State) (aa : Array Value) (hw : ∀ d ∈ tables_1, d.before aa Z = true) (ws : List Jvm.Cond) (a0 : Addr) (a1 : Addr) (h0 : Heap) (n0 : Nat) (Z0 : n0 ≤ h0.size) (E1 : Exa Z h0 a1 "java/lang/Long") :
    MetFree l (⟨"com/example/slackwise/slackwise/replay/JobOutcome", "equals", "(Ljava/lang/Object;)Z"⟩ : MethodName) (head1 (Jvm.Cond.code (⟨"com/example/slackwise/slackwise/replay/JobOutcome", "equals", "(Ljava/lang/Object;)Z"⟩ : MethodName) prog_94_method_6_code 3 (some .boolean) :: ws) ({ frames := 0, cells := 0, slots := 0, locals := 0 } : Room)) (fun a U => a = #[(.ref a0), (.ref a1)] ∧ Z.Warmed39 U.vm ∧ U.heap = h0) (fun _ _ _ _ _ => True) (fun _ U o U' => ∃ v L, o = .returned v ∧ Q3l Z a0 a1 h0 n0 v U'.heap L ∧ FrameEnd U o U' L ({ frames := 0, cells := 0, slots := 0, locals := 0 } : Room).cells ({ frames := 0, cells := 0, slots := 0, locals := 0 } : Room).slots) := by
  refine MetFree.of_bodySF (plainFor_of_name pn_com_example_slackwise_slackwise_replay_JobOutcome) hisR ?_
  intro p e s m args below meth c s₁ Bd hml0 hP hK
  obtain ⟨rfl, hZ, hh⟩ := hP
  have hx := Bd.exec
  have hby := Bd.bytes
  have hml : c.maxLocals = 3 := hml0
  have hown : s.vm.findClass "com/example/slackwise/slackwise/replay/JobOutcome" = some m.cls := findClass_of_methodNamed Bd.named
  have hnm := (name_of_methodNamed Bd.named Bd.method).1
  have X0 : Stand p l e ({ frames := 0, cells := 0, slots := 0, locals := 0 } : Room) s m #[(.ref a0), (.ref a1)] below meth c s₁ [] 0 0 := Stand.of_body Bd
  have e0 : s₁.heap = h0 := by rw [← hh, Bd.state]; rfl
  have N0 := Fr.nil n0
  obtain ⟨G0, hG0⟩ : ∃ G, G = s₁.setTop (entryFrame m #[(.ref a0), (.ref a1)] 3) := ⟨_, rfl⟩
  have K0 : ∀ t, Steps p.tables e below (s₁.setTop (mkF m 0 #[.val (.ref a0), .val (.ref a1), .unset] [])) t → Steps p.tables e below G0 t := fun t k => by rw [hG0]; exact castTop (ef_rm3l m a0 a1) k
  have K1 : ∀ t, Steps p.tables e below (s₁.setTop (mkF m 1 #[.val (.ref a0), .val (.ref a1), .unset] [(.ref a1)])) t → Steps p.tables e below G0 t := by
    intro t kt
    refine K0 t ?_
    refine XS.aloadN X0.here hx rfl (hb hby d3_0) rfl rfl ?_
    show Steps p.tables e below (s₁.setTop (mkF m 1 #[.val (.ref a0), .val (.ref a1), .unset] [(.ref a1)])) _
    exact kt
  obtain ⟨T2, X2, e2, st2⟩ := instNo X0 hx hZ hown (hw _ (List.mem_of_getElem? (i := 22) rfl)) e0 E1 (own_no hw) (g := (mkF m 1 #[.val (.ref a0), .val (.ref a1), .unset] [(.ref a1)])) rfl rfl (hb hby d3_1)
  have K2 : ∀ t, Steps p.tables e below (T2.setTop (mkF m 4 #[.val (.ref a0), .val (.ref a1), .unset] [(.int (0 : Int32))])) t → Steps p.tables e below G0 t := fun t kt => K1 t (st2 _ kt)
  have K3 : ∀ t, Steps p.tables e below (T2.setTop (mkF m 8 #[.val (.ref a0), .val (.ref a1), .unset] [(.int (0 : Int32))])) t → Steps p.tables e below G0 t := by
    intro t kt
    refine K2 t ?_
    refine XS.ifNo X2.here hx rfl (hb hby d3_4) rfl ((if0 _ _).trans (teq rfl).2) ?_
    show Steps p.tables e below (T2.setTop (mkF m 7 #[.val (.ref a0), .val (.ref a1), .unset] [])) _
    refine XS.iconst X2.here hx rfl (hb hby d3_7) ?_
    show Steps p.tables e below (T2.setTop (mkF m 8 #[.val (.ref a0), .val (.ref a1), .unset] [(.int (0 : Int32))])) _
    exact kt
  obtain ⟨fs, hr, hrun, hended, hW, hsame⟩ := X2.leave (v := some (.int (0 : Int32))) (fun h => by rw [Bd.returns] at h; cases h)
  refine ⟨_, _, ?_, hrun, hended, _, _, rfl, ?_, ⟨_, rfl⟩, hW, hsame.mono (by decide) (by decide)⟩
  · rw [← hG0]
    refine K3 _ ?_
    exact retN X2 hx (t := .boolean) Bd.returns (by simp) (hb hby d3_8) hr
  · show Q3l Z a0 a1 h0 n0 _ T2.heap _
    rw [e2]
    exact ⟨rfl, N0, rfl⟩
theorem d6_0 : decode jdk_18_method_1_code 0 = .ok (.aload_n 0, 1) := by decide +kernel
theorem d6_1 : decode jdk_18_method_1_code 1 = .ok (.invokespecial 1, 3) := by decide +kernel
theorem d6_4 : decode jdk_18_method_1_code 4 = .ok (.return_, 1) := by decide +kernel
theorem pn_java_lang_Number : plainName "java/lang/Number" = true := by first | (simp [plainName, overriddenIn]; done) | decide +kernel
theorem ef_rm6 (m : MethodId) (a0 : Addr) : entryFrame m #[(.ref a0)] 1 = (mkF m 0 #[.val (.ref a0)] []) := by first | (simp [entryFrame, mkF, argsToLocals, Value.category]; done) | rfl
def Q6 (Z : State) (a0 : Addr) (h0 : Heap) (n0 : Nat) (v : Option Value) (h : Heap) (L : List Loc) : Prop := v = none ∧ Fr n0 L ∧ h = h0
set_option maxRecDepth 65536 in
set_option maxHeartbeats 40000000 in
theorem rm6 (l : Launch) (Z : State) (aa : Array Value) (hw : ∀ d ∈ tables_1, d.before aa Z = true) (ws : List Jvm.Cond) (a0 : Addr) (h0 : Heap) (n0 : Nat) (Z0 : n0 ≤ h0.size) :
    MetFree l (⟨"java/lang/Number", "<init>", "()V"⟩ : MethodName) (head1 (Jvm.Cond.code (⟨"java/lang/Number", "<init>", "()V"⟩ : MethodName) jdk_18_method_1_code 1 none :: ws) ({ frames := 1, cells := 0, slots := 0, locals := 12 } : Room)) (fun a U => a = #[(.ref a0)] ∧ Z.Warmed39 U.vm ∧ U.heap = h0) (fun _ _ _ _ _ => True) (fun _ U o U' => ∃ v L, o = .returned v ∧ Q6 Z a0 h0 n0 v U'.heap L ∧ FrameEnd U o U' L ({ frames := 1, cells := 0, slots := 0, locals := 12 } : Room).cells ({ frames := 1, cells := 0, slots := 0, locals := 12 } : Room).slots) := by
  refine MetFree.of_bodySF (plainFor_of_name pn_java_lang_Number) hisR ?_
  intro p e s m args below meth c s₁ Bd hml0 hP hK
  obtain ⟨rfl, hZ, hh⟩ := hP
  have hx := Bd.exec
  have hby := Bd.bytes
  have hml : c.maxLocals = 1 := hml0
  have hown : s.vm.findClass "java/lang/Number" = some m.cls := findClass_of_methodNamed Bd.named
  have hnm := (name_of_methodNamed Bd.named Bd.method).1
  have X0 : Stand p l e ({ frames := 1, cells := 0, slots := 0, locals := 12 } : Room) s m #[(.ref a0)] below meth c s₁ [] 0 0 := Stand.of_body Bd
  have e0 : s₁.heap = h0 := by rw [← hh, Bd.state]; rfl
  have N0 := Fr.nil n0
  obtain ⟨G0, hG0⟩ : ∃ G, G = s₁.setTop (entryFrame m #[(.ref a0)] 1) := ⟨_, rfl⟩
  have K0 : ∀ t, Steps p.tables e below (s₁.setTop (mkF m 0 #[.val (.ref a0)] [])) t → Steps p.tables e below G0 t := fun t k => by rw [hG0]; exact castTop (ef_rm6 m a0) k
  have K1 : ∀ t, Steps p.tables e below (s₁.setTop (mkF m 1 #[.val (.ref a0)] [(.ref a0)])) t → Steps p.tables e below G0 t := by
    intro t kt
    refine K0 t ?_
    refine XS.aloadN X0.here hx rfl (hb hby d6_0) rfl rfl ?_
    show Steps p.tables e below (s₁.setTop (mkF m 1 #[.val (.ref a0)] [(.ref a0)])) _
    exact kt
  obtain ⟨T2, X2, e2, st2⟩ := initO X0 hx hZ hown (hw _ (List.mem_of_getElem? (i := 47) rfl)) (hw _ (List.mem_of_getElem? (i := 7) rfl)) (hw _ (List.mem_of_getElem? (i := 8) rfl)) e0 (g := (mkF m 1 #[.val (.ref a0)] [(.ref a0)])) rfl (by rw [hml]; rfl) rfl (hb hby d6_1) (by decide) (W := 0) (by show 2 * 0 + _ ≤ _; exact Nat.le_of_eq rfl) (by decide)
  have K2 : ∀ t, Steps p.tables e below (T2.setTop (mkF m 4 #[.val (.ref a0)] [])) t → Steps p.tables e below G0 t := fun t kt => K1 t (st2 _ kt)
  obtain ⟨fs, hr, hrun, hended, hW, hsame⟩ := X2.leave (v := none) (fun _ => rfl)
  refine ⟨_, _, ?_, hrun, hended, _, _, rfl, ?_, ⟨_, rfl⟩, hW, hsame.mono (by decide) (by decide)⟩
  · rw [← hG0]
    refine K2 _ ?_
    exact X2.returnOut hx Bd.returns (hb hby d6_4) hr
  · show Q6 Z a0 h0 n0 _ T2.heap _
    rw [e2]
    exact ⟨rfl, N0, rfl⟩
theorem d5_0 : decode jdk_35_method_26_code 0 = .ok (.aload_n 0, 1) := by decide +kernel
theorem d5_1 : decode jdk_35_method_26_code 1 = .ok (.invokespecial 270, 3) := by decide +kernel
theorem d5_4 : decode jdk_35_method_26_code 4 = .ok (.aload_n 0, 1) := by decide +kernel
theorem d5_5 : decode jdk_35_method_26_code 5 = .ok (.lload_n 1, 1) := by decide +kernel
theorem d5_6 : decode jdk_35_method_26_code 6 = .ok (.putfield 273, 3) := by decide +kernel
theorem d5_9 : decode jdk_35_method_26_code 9 = .ok (.return_, 1) := by decide +kernel
theorem pn_java_lang_Long : plainName "java/lang/Long" = true := by first | (simp [plainName, overriddenIn]; done) | decide +kernel
theorem pd_PQV : parseMethodDescriptor "()V" = some ⟨[], none⟩ := by decide +kernel
theorem ef_rm5 (m : MethodId) (a0 : Addr) (x1 : Int64) : entryFrame m #[(.ref a0), (.long x1)] 3 = (mkF m 0 #[.val (.ref a0), .val (.long x1), .second] []) := by first | (simp [entryFrame, mkF, argsToLocals, Value.category]; done) | rfl
def Q5 (Z : State) (a0 : Addr) (x1 : Int64) (u_value : Value) (h0 : Heap) (n0 : Nat) (v : Option Value) (h : Heap) (L : List Loc) : Prop := v = none ∧ Fr n0 L ∧ Keep h0 h [a0] ∧ Exa Z h a0 "java/lang/Long" ∧ Fld Z h a0 "java/lang/Long" "value" "J" (.long x1)
set_option maxRecDepth 65536 in
set_option maxHeartbeats 40000000 in
theorem rm5 (l : Launch) (Z : State) (aa : Array Value) (hw : ∀ d ∈ tables_1, d.before aa Z = true) (ws : List Jvm.Cond) (a0 : Addr) (x1 : Int64) (u_value : Value) (h0 : Heap) (n0 : Nat) (Z0 : n0 ≤ h0.size) (gn : n0 ≤ a0) (E0 : Exa Z h0 a0 "java/lang/Long") (F_value : Fld Z h0 a0 "java/lang/Long" "value" "J" u_value) :
    MetFree l (⟨"java/lang/Long", "<init>", "(J)V"⟩ : MethodName) (head1 (Jvm.Cond.code (⟨"java/lang/Long", "<init>", "(J)V"⟩ : MethodName) jdk_35_method_26_code 3 none :: ws) ({ frames := 2, cells := 0, slots := 0, locals := 24 } : Room)) (fun a U => a = #[(.ref a0), (.long x1)] ∧ Z.Warmed39 U.vm ∧ U.heap = h0) (fun _ _ _ _ _ => True) (fun _ U o U' => ∃ v L, o = .returned v ∧ Q5 Z a0 x1 u_value h0 n0 v U'.heap L ∧ FrameEnd U o U' L ({ frames := 2, cells := 0, slots := 0, locals := 24 } : Room).cells ({ frames := 2, cells := 0, slots := 0, locals := 24 } : Room).slots) := by
  refine MetFree.of_bodySF (plainFor_of_name pn_java_lang_Long) hisR ?_
  intro p e s m args below meth c s₁ Bd hml0 hP hK
  obtain ⟨rfl, hZ, hh⟩ := hP
  have hx := Bd.exec
  have hby := Bd.bytes
  have hml : c.maxLocals = 3 := hml0
  have hown : s.vm.findClass "java/lang/Long" = some m.cls := findClass_of_methodNamed Bd.named
  have hnm := (name_of_methodNamed Bd.named Bd.method).1
  have X0 : Stand p l e ({ frames := 2, cells := 0, slots := 0, locals := 24 } : Room) s m #[(.ref a0), (.long x1)] below meth c s₁ [] 0 0 := Stand.of_body Bd
  have e0 : s₁.heap = h0 := by rw [← hh, Bd.state]; rfl
  have N0 := Fr.nil n0
  obtain ⟨G0, hG0⟩ : ∃ G, G = s₁.setTop (entryFrame m #[(.ref a0), (.long x1)] 3) := ⟨_, rfl⟩
  have K0 : ∀ t, Steps p.tables e below (s₁.setTop (mkF m 0 #[.val (.ref a0), .val (.long x1), .second] [])) t → Steps p.tables e below G0 t := fun t k => by rw [hG0]; exact castTop (ef_rm5 m a0 x1) k
  have KP1 := Keep.refl h0 [a0]
  have K2 : ∀ t, Steps p.tables e below (s₁.setTop (mkF m 1 #[.val (.ref a0), .val (.long x1), .second] [(.ref a0)])) t → Steps p.tables e below G0 t := by
    intro t kt
    refine K0 t ?_
    refine XS.aloadN X0.here hx rfl (hb hby d5_0) rfl rfl ?_
    show Steps p.tables e below (s₁.setTop (mkF m 1 #[.val (.ref a0), .val (.long x1), .second] [(.ref a0)])) _
    exact kt
  obtain ⟨_, _, ⟨T3, L3, k3, n3⟩, -, X3, ⟨Lc3, hQ3, l3, y3, z3⟩, st3⟩ := X0.specialBack hx (y := (⟨"java/lang/Number", "<init>", "()V"⟩ : MethodName)) rfl hown (mvT hZ (hw _ (List.mem_of_getElem? (i := 41) rfl))) (mvT hZ (hw _ (List.mem_of_getElem? (i := 42) rfl))) (mvT hZ (hw _ (List.mem_of_getElem? (i := 46) rfl))) (by decide) (backOf (W := 0) (rm6 l Z aa hw [] (a0)  h0 n0 Z0 ) hZ (hw _ (List.mem_of_getElem? (i := 46) rfl)) (hw _ (List.mem_of_getElem? (i := 45) rfl)) (by decide) (by decide)) (g := (mkF m 1 #[.val (.ref a0), .val (.long x1), .second] [(.ref a0)])) rfl (by rw [hml]; rfl) (Steps.refl _) (a := a0) (argsL := []) (rest := []) (lenOf pd_PQV rfl) rfl (by show 2 * 0 + _ ≤ _; exact Nat.le_of_eq rfl) (hb hby d5_1) (fun _ _ => ⟨rfl, e0, (by decide : 0 + 0 ≤ _), (by decide : 0 + 0 ≤ _)⟩)
  dsimp only [Pt.U, Pt.locs, Pt.cells, Pt.slots] at X3 l3 y3 z3 st3 hQ3
  subst l3 y3 z3
  obtain ⟨rfl, N3q, e3⟩ := hQ3
  have N3 := Fr.app N0 N3q
  have K3 : ∀ t, Steps p.tables e below (T3.setTop (mkF m 4 #[.val (.ref a0), .val (.long x1), .second] [])) t → Steps p.tables e below G0 t := fun t kt => K2 t (st3.trans kt)
  have K4 : ∀ t, Steps p.tables e below (T3.setTop (mkF m 6 #[.val (.ref a0), .val (.long x1), .second] [(.long x1), (.ref a0)])) t → Steps p.tables e below G0 t := by
    intro t kt
    refine K3 t ?_
    refine XS.aloadN X3.here hx rfl (hb hby d5_4) rfl rfl ?_
    show Steps p.tables e below (T3.setTop (mkF m 5 #[.val (.ref a0), .val (.long x1), .second] [(.ref a0)])) _
    refine XS.lloadN X3.here hx rfl (hb hby d5_5) rfl ?_
    show Steps p.tables e below (T3.setTop (mkF m 6 #[.val (.ref a0), .val (.long x1), .second] [(.long x1), (.ref a0)])) _
    exact kt
  obtain ⟨T5, h5, X5, e5, W5, st5⟩ := putF X3 hx hZ hown (host := "") (Or.inl (hw _ (List.mem_of_getElem? (i := 48) rfl))) Via.refl e3 F_value E0 (Or.inr ⟨(hw _ (List.mem_of_getElem? (i := 49) rfl)), rfl, hnm⟩) (hw _ (List.mem_of_getElem? (i := 36) rfl)) (ty := .long) (by decide) rfl rfl (g := (mkF m 6 #[.val (.ref a0), .val (.long x1), .second] [(.long x1), (.ref a0)])) rfl rfl (hb hby d5_6)
  have K5 : ∀ t, Steps p.tables e below (T5.setTop (mkF m 9 #[.val (.ref a0), .val (.long x1), .second] [])) t → Steps p.tables e below G0 t := fun t kt => K4 t (st5 _ kt)
  have Fw5 := (F_value).same W5
  have N5 := Fr.snoc X5 N3 gn
  have Z5 : n0 ≤ h5.size := Nat.le_trans Z0 (Keep.of_wr W5).1
  have KP5 := KP1.wr W5 (Or.inl (List.mem_of_getElem? (i := 0) rfl))
  have f6 := (E0.wr W5)
  obtain ⟨fs, hr, hrun, hended, hW, hsame⟩ := X5.leave (v := none) (fun _ => rfl)
  refine ⟨_, _, ?_, hrun, hended, _, _, rfl, ?_, ⟨_, rfl⟩, hW, hsame.mono (by decide) (by decide)⟩
  · rw [← hG0]
    refine K5 _ ?_
    exact X5.returnOut hx Bd.returns (hb hby d5_9) hr
  · show Q5 Z a0 x1 u_value h0 n0 _ T5.heap _
    rw [e5]
    exact ⟨rfl, N5, KP5, f6, Fw5⟩
theorem own_idx {v : Int64} (h1 : ¬ v < (-128 : Int64)) (h2 : ¬ (127 : Int64) < v) (n : Nat) (hn : n = 256) : ¬ ((v.toInt32 + (128 : Int32)) < 0 ∨ n ≤ (v.toInt32 + (128 : Int32)).toNatClampNeg) := by
  subst hn
  have e1 : (-128 : Int64).toInt = -128 := by decide
  have e2 : (127 : Int64).toInt = 127 := by decide
  have e3 : (128 : Int32).toInt = 128 := by decide
  have e4 : (0 : Int32).toInt = 0 := by decide
  rw [Int64.lt_iff_toInt_lt] at h1 h2
  have a := c_l2i v
  have b := c_iadd v.toInt32 128
  have r1 := rng32 v.toInt32
  have r2 := rng32 (v.toInt32 + 128)
  rw [Int32.lt_iff_toInt_lt]
  simp only [Int32.toNatClampNeg]
  omega
theorem d4_0 : decode jdk_35_method_24_code 0 = .ok (.sipush 128, 3) := by decide +kernel
theorem d4_3 : decode jdk_35_method_24_code 3 = .ok (.istore_n 2, 1) := by decide +kernel
theorem d4_4 : decode jdk_35_method_24_code 4 = .ok (.lload_n 0, 1) := by decide +kernel
theorem d4_5 : decode jdk_35_method_24_code 5 = .ok (.ldc2_w 230, 3) := by decide +kernel
theorem d4_8 : decode jdk_35_method_24_code 8 = .ok (.lcmp, 1) := by decide +kernel
theorem d4_9 : decode jdk_35_method_24_code 9 = .ok (.ifCond .lt 22, 3) := by decide +kernel
theorem d4_12 : decode jdk_35_method_24_code 12 = .ok (.lload_n 0, 1) := by decide +kernel
theorem d4_13 : decode jdk_35_method_24_code 13 = .ok (.ldc2_w 232, 3) := by decide +kernel
theorem d4_16 : decode jdk_35_method_24_code 16 = .ok (.lcmp, 1) := by decide +kernel
theorem d4_17 : decode jdk_35_method_24_code 17 = .ok (.ifCond .gt 14, 3) := by decide +kernel
theorem d4_20 : decode jdk_35_method_24_code 20 = .ok (.getstatic 234, 3) := by decide +kernel
theorem d4_23 : decode jdk_35_method_24_code 23 = .ok (.lload_n 0, 1) := by decide +kernel
theorem d4_24 : decode jdk_35_method_24_code 24 = .ok (.l2i, 1) := by decide +kernel
theorem d4_25 : decode jdk_35_method_24_code 25 = .ok (.sipush 128, 3) := by decide +kernel
theorem d4_28 : decode jdk_35_method_24_code 28 = .ok (.iadd, 1) := by decide +kernel
theorem d4_29 : decode jdk_35_method_24_code 29 = .ok (.aaload, 1) := by decide +kernel
theorem d4_30 : decode jdk_35_method_24_code 30 = .ok (.areturn, 1) := by decide +kernel
theorem d4_31 : decode jdk_35_method_24_code 31 = .ok (.new 1, 3) := by decide +kernel
theorem d4_34 : decode jdk_35_method_24_code 34 = .ok (.dup, 1) := by decide +kernel
theorem d4_35 : decode jdk_35_method_24_code 35 = .ok (.lload_n 0, 1) := by decide +kernel
theorem d4_36 : decode jdk_35_method_24_code 36 = .ok (.invokespecial 240, 3) := by decide +kernel
theorem d4_39 : decode jdk_35_method_24_code 39 = .ok (.areturn, 1) := by decide +kernel
theorem pd_PJQV : parseMethodDescriptor "(J)V" = some ⟨[.long], none⟩ := by decide +kernel
theorem ef_rm4 (m : MethodId) (q0 : Int64) : entryFrame m #[(.long q0)] 3 = (mkF m 0 #[.val (.long q0), .second, .unset] []) := by first | (simp [entryFrame, mkF, argsToLocals, Value.category]; done) | rfl
def Q4 (Z : State) (q0 : Int64) (ca : Addr) (cc : Cell) (h0 : Heap) (n0 : Nat) (v : Option Value) (h : Heap) (L : List Loc) : Prop := ∃ r : Addr, v = some (.ref r) ∧ Fr n0 L ∧ Keep h0 h [] ∧ Exa Z h r "java/lang/Long"
set_option maxRecDepth 65536 in
set_option maxHeartbeats 40000000 in
theorem rm4 (l : Launch) (Z : State) (aa : Array Value) (hw : ∀ d ∈ tables_1, d.before aa Z = true) (ws : List Jvm.Cond) (q0 : Int64) (ca : Addr) (cc : Cell) (h0 : Heap) (n0 : Nat) (Z0 : n0 ≤ h0.size) (SC : Sta Z h0 "java/lang/Long$LongCache" "cache" "[Ljava/lang/Long;" (.ref ca)) (AC : Arr Z h0 ca cc (.object "java/lang/Long")) (hsz : cc.slots.size = 256) (hel : ∀ j : Int32, ¬ (j < 0 ∨ cc.slots.size ≤ j.toNatClampNeg) → ∃ b : Addr, cc.slots[j.toNatClampNeg]? = some (.ref b) ∧ Exa Z h0 b "java/lang/Long") :
    MetFree l (⟨"java/lang/Long", "valueOf", "(J)Ljava/lang/Long;"⟩ : MethodName) (head1 (Jvm.Cond.code (⟨"java/lang/Long", "valueOf", "(J)Ljava/lang/Long;"⟩ : MethodName) jdk_35_method_24_code 3 (some (.object "java/lang/Long")) :: ws) ({ frames := 3, cells := 1, slots := 1, locals := 39 } : Room)) (fun a U => a = #[(.long q0)] ∧ Z.Warmed39 U.vm ∧ U.heap = h0) (fun _ _ _ _ _ => True) (fun _ U o U' => ∃ v L, o = .returned v ∧ Q4 Z q0 ca cc h0 n0 v U'.heap L ∧ FrameEnd U o U' L ({ frames := 3, cells := 1, slots := 1, locals := 39 } : Room).cells ({ frames := 3, cells := 1, slots := 1, locals := 39 } : Room).slots) := by
  refine MetFree.of_bodySF (plainFor_of_name pn_java_lang_Long) hisR ?_
  intro p e s m args below meth c s₁ Bd hml0 hP hK
  obtain ⟨rfl, hZ, hh⟩ := hP
  have hx := Bd.exec
  have hby := Bd.bytes
  have hml : c.maxLocals = 3 := hml0
  have hown : s.vm.findClass "java/lang/Long" = some m.cls := findClass_of_methodNamed Bd.named
  have hnm := (name_of_methodNamed Bd.named Bd.method).1
  have X0 : Stand p l e ({ frames := 3, cells := 1, slots := 1, locals := 39 } : Room) s m #[(.long q0)] below meth c s₁ [] 0 0 := Stand.of_body Bd
  have e0 : s₁.heap = h0 := by rw [← hh, Bd.state]; rfl
  have N0 := Fr.nil n0
  obtain ⟨G0, hG0⟩ : ∃ G, G = s₁.setTop (entryFrame m #[(.long q0)] 3) := ⟨_, rfl⟩
  have K0 : ∀ t, Steps p.tables e below (s₁.setTop (mkF m 0 #[.val (.long q0), .second, .unset] [])) t → Steps p.tables e below G0 t := fun t k => by rw [hG0]; exact castTop (ef_rm4 m q0) k
  have K1 : ∀ t, Steps p.tables e below (s₁.setTop (mkF m 9 #[.val (.long q0), .second, .val (.int (128 : Int32))] [(.int (lcmpW q0 (-128 : Int64)))])) t → Steps p.tables e below G0 t := by
    intro t kt
    refine K0 t ?_
    refine XS.sipush X0.here hx rfl (hb hby d4_0) ?_
    show Steps p.tables e below (s₁.setTop (mkF m 3 #[.val (.long q0), .second, .unset] [(.int (128 : Int32))])) _
    refine XS.istoreN X0.here hx rfl (hb hby d4_3) rfl (l' := #[.val (.long q0), .second, .val (.int (128 : Int32))]) rfl ?_
    show Steps p.tables e below (s₁.setTop (mkF m 4 #[.val (.long q0), .second, .val (.int (128 : Int32))] [])) _
    refine XS.lloadN X0.here hx rfl (hb hby d4_4) rfl ?_
    show Steps p.tables e below (s₁.setTop (mkF m 5 #[.val (.long q0), .second, .val (.int (128 : Int32))] [(.long q0)])) _
    refine X0.ldc2Long hx hown (mvT hZ (hw _ (List.mem_of_getElem? (i := 28) rfl))) (g := (mkF m 5 #[.val (.long q0), .second, .val (.int (128 : Int32))] [(.long q0)])) rfl (hb hby d4_5) _ ?_
    show Steps p.tables e below (s₁.setTop (mkF m 8 #[.val (.long q0), .second, .val (.int (128 : Int32))] [(.long (-128 : Int64)), (.long q0)])) _
    refine XS.lcmp X0.here hx rfl (hb hby d4_8) rfl ?_
    show Steps p.tables e below (s₁.setTop (mkF m 9 #[.val (.long q0), .second, .val (.int (128 : Int32))] [(.int (lcmpW q0 (-128 : Int64)))])) _
    exact kt
  by_cases hc2 : (lcmpW q0 (-128 : Int64)) < (0 : Int32)
  ·
    have K3 : ∀ t, Steps p.tables e below (s₁.setTop (mkF m 31 #[.val (.long q0), .second, .val (.int (128 : Int32))] [])) t → Steps p.tables e below G0 t := by
      intro t kt
      refine K1 t ?_
      refine XS.ifYes X0.here hx rfl (pc0 := 9) (pc' := 31) rfl (hb hby d4_9) rfl ((if0 _ _).trans (tlt hc2).1) (by decide) (by decide) ?_
      show Steps p.tables e below (s₁.setTop (mkF m 31 #[.val (.long q0), .second, .val (.int (128 : Int32))] [])) _
      exact kt
    obtain ⟨T4, h4, X4, e4, E4, A4, D4, -, st4⟩ := newO X0 hx hZ hown (hw _ (List.mem_of_getElem? (i := 35) rfl)) (hw _ (List.mem_of_getElem? (i := 36) rfl)) (hw _ (List.mem_of_getElem? (i := 26) rfl)) e0 (g := (mkF m 31 #[.val (.long q0), .second, .val (.int (128 : Int32))] [])) rfl (hb hby d4_31) (by decide) (by decide)
    obtain ⟨b4, g4⟩ : ∃ z, z = h0.size := ⟨_, rfl⟩
    rw [← g4] at A4 D4 st4
    have gn4 : n0 ≤ b4 := Nat.le_trans Z0 (Nat.le_of_eq g4.symm)
    have Z4 : n0 ≤ h4.size := Nat.le_trans Z0 E4.1
    have K4 : ∀ t, Steps p.tables e below (T4.setTop (mkF m 34 #[.val (.long q0), .second, .val (.int (128 : Int32))] [(.ref b4)])) t → Steps p.tables e below G0 t := fun t kt => K3 t (st4 _ kt)
    have F_value_b4 := (D4 (Or.inr (hw _ (List.mem_of_getElem? (i := 49) rfl))) (ty := .long) (by decide) : Fld Z h4 b4 "java/lang/Long" "value" "J" (.long (0 : Int64)))
    have K6 : ∀ t, Steps p.tables e below (T4.setTop (mkF m 36 #[.val (.long q0), .second, .val (.int (128 : Int32))] [(.long q0), (.ref b4), (.ref b4)])) t → Steps p.tables e below G0 t := by
      intro t kt
      refine K4 t ?_
      refine XS.dup X4.here hx rfl (hb hby d4_34) rfl rfl ?_
      show Steps p.tables e below (T4.setTop (mkF m 35 #[.val (.long q0), .second, .val (.int (128 : Int32))] [(.ref b4), (.ref b4)])) _
      refine XS.lloadN X4.here hx rfl (hb hby d4_35) rfl ?_
      show Steps p.tables e below (T4.setTop (mkF m 36 #[.val (.long q0), .second, .val (.int (128 : Int32))] [(.long q0), (.ref b4), (.ref b4)])) _
      exact kt
    obtain ⟨_, _, ⟨T7, L7, k7, n7⟩, -, X7, ⟨Lc7, hQ7, l7, y7, z7⟩, st7⟩ := X4.specialBack hx (y := (⟨"java/lang/Long", "<init>", "(J)V"⟩ : MethodName)) rfl hown (mvT hZ (hw _ (List.mem_of_getElem? (i := 37) rfl))) (mvT hZ (hw _ (List.mem_of_getElem? (i := 38) rfl))) (mvT hZ (hw _ (List.mem_of_getElem? (i := 40) rfl))) (by decide) (backOf (W := 1) (rm5 l Z aa hw [] (b4) (q0) _ h4 n0 Z4 gn4 A4 F_value_b4) hZ (hw _ (List.mem_of_getElem? (i := 40) rfl)) (hw _ (List.mem_of_getElem? (i := 26) rfl)) (by decide) (by decide)) (g := (mkF m 36 #[.val (.long q0), .second, .val (.int (128 : Int32))] [(.long q0), (.ref b4), (.ref b4)])) rfl (by rw [hml]; rfl) (Steps.refl _) (a := b4) (argsL := [(.long q0)]) (rest := [(.ref b4)]) (lenOf pd_PJQV rfl) rfl (by show 2 * 0 + _ ≤ _; exact Nat.le_of_eq rfl) (hb hby d4_36) (fun _ _ => ⟨rfl, e4, (by decide : 1 + 0 ≤ _), (by decide : 1 + 0 ≤ _)⟩)
    dsimp only [Pt.U, Pt.locs, Pt.cells, Pt.slots] at X7 l7 y7 z7 st7 hQ7
    subst l7 y7 z7
    obtain ⟨rfl, N7q, KK5, EE5, Fc0_5⟩ := hQ7
    have N7 := Fr.app N0 N7q
    have K7 : ∀ t, Steps p.tables e below (T7.setTop (mkF m 39 #[.val (.long q0), .second, .val (.int (128 : Int32))] [(.ref b4)])) t → Steps p.tables e below G0 t := fun t kt => K6 t (st7.trans kt)
    have ZZ5 : n0 ≤ T7.heap.size := Nat.le_trans Z4 KK5.1
    obtain ⟨fs, hr, hrun, hended, hW, hsame⟩ := X7.leave (v := some (.ref b4)) (fun h => by rw [Bd.returns] at h; cases h)
    refine ⟨_, _, ?_, hrun, hended, _, _, rfl, ?_, ⟨_, rfl⟩, hW, hsame.mono (by decide) (by decide)⟩
    · rw [← hG0]
      refine K7 _ ?_
      exact retOut X7 hx (t := (.object "java/lang/Long")) Bd.returns rfl (Or.inr (Or.inr (Or.inr (Or.inr ⟨rfl, rfl, rfl⟩)))) (hb hby d4_39) hr
    · show Q4 Z q0 ca cc h0 n0 _ T7.heap _
      exact ⟨_, rfl, N7, ((Keep.refl h0 []).ext E4).trans KK5 (fun x hx => Or.inr (by cases List.mem_singleton.mp hx; exact Nat.le_of_eq g4.symm)), EE5⟩
  ·
    have K8 : ∀ t, Steps p.tables e below (s₁.setTop (mkF m 17 #[.val (.long q0), .second, .val (.int (128 : Int32))] [(.int (lcmpW q0 (127 : Int64)))])) t → Steps p.tables e below G0 t := by
      intro t kt
      refine K1 t ?_
      refine XS.ifNo X0.here hx rfl (hb hby d4_9) rfl ((if0 _ _).trans (flt hc2).1) ?_
      show Steps p.tables e below (s₁.setTop (mkF m 12 #[.val (.long q0), .second, .val (.int (128 : Int32))] [])) _
      refine XS.lloadN X0.here hx rfl (hb hby d4_12) rfl ?_
      show Steps p.tables e below (s₁.setTop (mkF m 13 #[.val (.long q0), .second, .val (.int (128 : Int32))] [(.long q0)])) _
      refine X0.ldc2Long hx hown (mvT hZ (hw _ (List.mem_of_getElem? (i := 29) rfl))) (g := (mkF m 13 #[.val (.long q0), .second, .val (.int (128 : Int32))] [(.long q0)])) rfl (hb hby d4_13) _ ?_
      show Steps p.tables e below (s₁.setTop (mkF m 16 #[.val (.long q0), .second, .val (.int (128 : Int32))] [(.long (127 : Int64)), (.long q0)])) _
      refine XS.lcmp X0.here hx rfl (hb hby d4_16) rfl ?_
      show Steps p.tables e below (s₁.setTop (mkF m 17 #[.val (.long q0), .second, .val (.int (128 : Int32))] [(.int (lcmpW q0 (127 : Int64)))])) _
      exact kt
    by_cases hc9 : (0 : Int32) < (lcmpW q0 (127 : Int64))
    ·
      have K10 : ∀ t, Steps p.tables e below (s₁.setTop (mkF m 31 #[.val (.long q0), .second, .val (.int (128 : Int32))] [])) t → Steps p.tables e below G0 t := by
        intro t kt
        refine K8 t ?_
        refine XS.ifYes X0.here hx rfl (pc0 := 17) (pc' := 31) rfl (hb hby d4_17) rfl ((if0 _ _).trans (tlt hc9).2.2.1) (by decide) (by decide) ?_
        show Steps p.tables e below (s₁.setTop (mkF m 31 #[.val (.long q0), .second, .val (.int (128 : Int32))] [])) _
        exact kt
      obtain ⟨T11, h11, X11, e11, E11, A11, D11, -, st11⟩ := newO X0 hx hZ hown (hw _ (List.mem_of_getElem? (i := 35) rfl)) (hw _ (List.mem_of_getElem? (i := 36) rfl)) (hw _ (List.mem_of_getElem? (i := 26) rfl)) e0 (g := (mkF m 31 #[.val (.long q0), .second, .val (.int (128 : Int32))] [])) rfl (hb hby d4_31) (by decide) (by decide)
      obtain ⟨b11, g11⟩ : ∃ z, z = h0.size := ⟨_, rfl⟩
      rw [← g11] at A11 D11 st11
      have gn11 : n0 ≤ b11 := Nat.le_trans Z0 (Nat.le_of_eq g11.symm)
      have Z11 : n0 ≤ h11.size := Nat.le_trans Z0 E11.1
      have K11 : ∀ t, Steps p.tables e below (T11.setTop (mkF m 34 #[.val (.long q0), .second, .val (.int (128 : Int32))] [(.ref b11)])) t → Steps p.tables e below G0 t := fun t kt => K10 t (st11 _ kt)
      have F_value_b11 := (D11 (Or.inr (hw _ (List.mem_of_getElem? (i := 49) rfl))) (ty := .long) (by decide) : Fld Z h11 b11 "java/lang/Long" "value" "J" (.long (0 : Int64)))
      have K13 : ∀ t, Steps p.tables e below (T11.setTop (mkF m 36 #[.val (.long q0), .second, .val (.int (128 : Int32))] [(.long q0), (.ref b11), (.ref b11)])) t → Steps p.tables e below G0 t := by
        intro t kt
        refine K11 t ?_
        refine XS.dup X11.here hx rfl (hb hby d4_34) rfl rfl ?_
        show Steps p.tables e below (T11.setTop (mkF m 35 #[.val (.long q0), .second, .val (.int (128 : Int32))] [(.ref b11), (.ref b11)])) _
        refine XS.lloadN X11.here hx rfl (hb hby d4_35) rfl ?_
        show Steps p.tables e below (T11.setTop (mkF m 36 #[.val (.long q0), .second, .val (.int (128 : Int32))] [(.long q0), (.ref b11), (.ref b11)])) _
        exact kt
      obtain ⟨_, _, ⟨T14, L14, k14, n14⟩, -, X14, ⟨Lc14, hQ14, l14, y14, z14⟩, st14⟩ := X11.specialBack hx (y := (⟨"java/lang/Long", "<init>", "(J)V"⟩ : MethodName)) rfl hown (mvT hZ (hw _ (List.mem_of_getElem? (i := 37) rfl))) (mvT hZ (hw _ (List.mem_of_getElem? (i := 38) rfl))) (mvT hZ (hw _ (List.mem_of_getElem? (i := 40) rfl))) (by decide) (backOf (W := 1) (rm5 l Z aa hw [] (b11) (q0) _ h11 n0 Z11 gn11 A11 F_value_b11) hZ (hw _ (List.mem_of_getElem? (i := 40) rfl)) (hw _ (List.mem_of_getElem? (i := 26) rfl)) (by decide) (by decide)) (g := (mkF m 36 #[.val (.long q0), .second, .val (.int (128 : Int32))] [(.long q0), (.ref b11), (.ref b11)])) rfl (by rw [hml]; rfl) (Steps.refl _) (a := b11) (argsL := [(.long q0)]) (rest := [(.ref b11)]) (lenOf pd_PJQV rfl) rfl (by show 2 * 0 + _ ≤ _; exact Nat.le_of_eq rfl) (hb hby d4_36) (fun _ _ => ⟨rfl, e11, (by decide : 1 + 0 ≤ _), (by decide : 1 + 0 ≤ _)⟩)
      dsimp only [Pt.U, Pt.locs, Pt.cells, Pt.slots] at X14 l14 y14 z14 st14 hQ14
      subst l14 y14 z14
      obtain ⟨rfl, N14q, KK12, EE12, Fc0_12⟩ := hQ14
      have N14 := Fr.app N0 N14q
      have K14 : ∀ t, Steps p.tables e below (T14.setTop (mkF m 39 #[.val (.long q0), .second, .val (.int (128 : Int32))] [(.ref b11)])) t → Steps p.tables e below G0 t := fun t kt => K13 t (st14.trans kt)
      have ZZ12 : n0 ≤ T14.heap.size := Nat.le_trans Z11 KK12.1
      obtain ⟨fs, hr, hrun, hended, hW, hsame⟩ := X14.leave (v := some (.ref b11)) (fun h => by rw [Bd.returns] at h; cases h)
      refine ⟨_, _, ?_, hrun, hended, _, _, rfl, ?_, ⟨_, rfl⟩, hW, hsame.mono (by decide) (by decide)⟩
      · rw [← hG0]
        refine K14 _ ?_
        exact retOut X14 hx (t := (.object "java/lang/Long")) Bd.returns rfl (Or.inr (Or.inr (Or.inr (Or.inr ⟨rfl, rfl, rfl⟩)))) (hb hby d4_39) hr
      · show Q4 Z q0 ca cc h0 n0 _ T14.heap _
        exact ⟨_, rfl, N14, ((Keep.refl h0 []).ext E11).trans KK12 (fun x hx => Or.inr (by cases List.mem_singleton.mp hx; exact Nat.le_of_eq g11.symm)), EE12⟩
    ·
      have K15 : ∀ t, Steps p.tables e below (s₁.setTop (mkF m 20 #[.val (.long q0), .second, .val (.int (128 : Int32))] [])) t → Steps p.tables e below G0 t := by
        intro t kt
        refine K8 t ?_
        refine XS.ifNo X0.here hx rfl (hb hby d4_17) rfl ((if0 _ _).trans (flt hc9).2.2.1) ?_
        show Steps p.tables e below (s₁.setTop (mkF m 20 #[.val (.long q0), .second, .val (.int (128 : Int32))] [])) _
        exact kt
      obtain ⟨T16, X16, e16, st16⟩ := getS2 X0 hx hZ hown (host := "") (Or.inl (hw _ (List.mem_of_getElem? (i := 30) rfl))) Via.refl e0 SC (g := (mkF m 20 #[.val (.long q0), .second, .val (.int (128 : Int32))] [])) rfl (hb hby d4_20)
      have K16 : ∀ t, Steps p.tables e below (T16.setTop (mkF m 23 #[.val (.long q0), .second, .val (.int (128 : Int32))] [(.ref ca)])) t → Steps p.tables e below G0 t := fun t kt => K15 t (st16 _ kt)
      have hin := own_idx (fun q => hc2 ((lw_lt _ _).mpr q)) (fun q => hc9 ((lw_gt _ _).mpr q)) cc.slots.size hsz
      obtain ⟨b, hat, Eb⟩ := hel _ hin
      have K17 : ∀ t, Steps p.tables e below (T16.setTop (mkF m 30 #[.val (.long q0), .second, .val (.int (128 : Int32))] [(.ref b)])) t → Steps p.tables e below G0 t := by
        intro t kt
        refine K16 t ?_
        refine XS.lloadN X16.here hx rfl (hb hby d4_23) rfl ?_
        show Steps p.tables e below (T16.setTop (mkF m 24 #[.val (.long q0), .second, .val (.int (128 : Int32))] [(.long q0), (.ref ca)])) _
        refine XS.l2i X16.here hx rfl (hb hby d4_24) rfl ?_
        show Steps p.tables e below (T16.setTop (mkF m 25 #[.val (.long q0), .second, .val (.int (128 : Int32))] [(.int (q0.toInt32)), (.ref ca)])) _
        refine XS.sipush X16.here hx rfl (hb hby d4_25) ?_
        show Steps p.tables e below (T16.setTop (mkF m 28 #[.val (.long q0), .second, .val (.int (128 : Int32))] [(.int (128 : Int32)), (.int (q0.toInt32)), (.ref ca)])) _
        refine XS.iadd X16.here hx rfl (hb hby d4_28) rfl ?_
        show Steps p.tables e below (T16.setTop (mkF m 29 #[.val (.long q0), .second, .val (.int (128 : Int32))] [(.int ((q0.toInt32) + (128 : Int32))), (.ref ca)])) _
        refine X16.aaload hx (j := ((q0.toInt32) + (128 : Int32))) (v := (.ref b)) (by rw [e16]; exact (AC).1) (State.isArrayOf_alike hZ.alike (AC).2.1) rfl (AC).2.2 hin hat (g := (mkF m 29 #[.val (.long q0), .second, .val (.int (128 : Int32))] [(.int ((q0.toInt32) + (128 : Int32))), (.ref ca)])) rfl rfl (hb hby d4_29) _ ?_
        show Steps p.tables e below (T16.setTop (mkF m 30 #[.val (.long q0), .second, .val (.int (128 : Int32))] [(.ref b)])) _
        exact kt
      obtain ⟨fs, hr, hrun, hended, hW, hsame⟩ := X16.leave (v := some (.ref b)) (fun h => by rw [Bd.returns] at h; cases h)
      refine ⟨_, _, ?_, hrun, hended, _, _, rfl, ?_, ⟨_, rfl⟩, hW, hsame.mono (by decide) (by decide)⟩
      · rw [← hG0]
        refine K17 _ ?_
        exact retOut X16 hx (t := (.object "java/lang/Long")) Bd.returns rfl (Or.inr (Or.inr (Or.inr (Or.inr ⟨rfl, rfl, rfl⟩)))) (hb hby d4_30) hr
      · show Q4 Z q0 ca cc h0 n0 _ T16.heap _
        rw [e16]
        exact ⟨b, rfl, N0, Keep.refl _ _, Eb⟩
theorem pn_com_example_slackwise_slackwise_replay_JobOutcomeEqualsPinLaw : plainName "com/example/slackwise/slackwise/replay/JobOutcomeEqualsPinLaw" = true := by first | (simp [plainName, overriddenIn]; done) | decide +kernel
theorem pd_PJZJJQV : parseMethodDescriptor "(JZJJ)V" = some ⟨[.long, .boolean, .long, .long], none⟩ := by decide +kernel
theorem pd_PLjava_lang_Object_QZ : parseMethodDescriptor "(Ljava/lang/Object;)Z" = some ⟨[(.object "java/lang/Object")], some .boolean⟩ := by decide +kernel
theorem pd_PJQLjava_lang_Long_ : parseMethodDescriptor "(J)Ljava/lang/Long;" = some ⟨[.long], some (.object "java/lang/Long")⟩ := by decide +kernel
theorem ef_rm0 (m : MethodId) (qm : Int64) (qw : Int64) (qt : Int64) (qd : Int64) (fl : Int32) : entryFrame m #[(.long qm), (.long qw), (.long qt), (.long qd), (.int fl)] maxLocals = (mkF m 0 #[.val (.long qm), .second, .val (.long qw), .second, .val (.long qt), .second, .val (.long qd), .second, .val (.int fl), .unset, .unset, .unset, .unset, .unset, .unset, .unset, .unset, .unset, .unset, .unset, .unset, .unset, .unset, .unset, .unset, .unset, .unset] []) := by first | (simp [entryFrame, mkF, argsToLocals, Value.category, maxLocals]; done) | rfl
def Q0 (Z : State) (qm : Int64) (qw : Int64) (qt : Int64) (qd : Int64) (fl : Int32) (ca : Addr) (cc : Cell) (h0 : Heap) (n0 : Nat) (v : Option Value) (h : Heap) (L : List Loc) : Prop := v = some (.int 1) ∧ Fr n0 L
set_option maxRecDepth 65536 in
set_option maxHeartbeats 40000000 in
theorem rm0 (l : Launch) (Z : State) (aa : Array Value) (hw : ∀ d ∈ tables_1, d.before aa Z = true) (ws : List Jvm.Cond) (qm : Int64) (qw : Int64) (qt : Int64) (qd : Int64) (fl : Int32) (ca : Addr) (cc : Cell) (h0 : Heap) (n0 : Nat) (Z0 : n0 ≤ h0.size) (HO : Old Z n0 h0) (SC : Sta Z Z.heap "java/lang/Long$LongCache" "cache" "[Ljava/lang/Long;" (.ref ca)) (BX : Bxs Z ca cc "java/lang/Long" "J" (256 : Int32) (fun j => .long (j - (128 : Int32)).toInt64)) :
    MetFree l x (head1 (Jvm.Cond.code x code maxLocals ret :: ws) room_1) (fun a U => a = #[(.long qm), (.long qw), (.long qt), (.long qd), (.int fl)] ∧ Z.Warmed39 U.vm ∧ U.heap = h0) (fun _ _ _ _ _ => True) (fun _ U o U' => ∃ v L, o = .returned v ∧ Q0 Z qm qw qt qd fl ca cc h0 n0 v U'.heap L ∧ FrameEnd U o U' L room_1.cells room_1.slots) := by
  refine MetFree.of_bodySF (plainFor_of_name pn_com_example_slackwise_slackwise_replay_JobOutcomeEqualsPinLaw) hisR ?_
  intro p e s m args below meth c s₁ Bd hml0 hP hK
  obtain ⟨rfl, hZ, hh⟩ := hP
  have hx := Bd.exec
  have hby := Bd.bytes
  have hml : c.maxLocals = 27 := hml0
  have hown : s.vm.findClass "com/example/slackwise/slackwise/replay/JobOutcomeEqualsPinLaw" = some m.cls := findClass_of_methodNamed Bd.named
  have hnm := (name_of_methodNamed Bd.named Bd.method).1
  have X0 : Stand p l e room_1 s m #[(.long qm), (.long qw), (.long qt), (.long qd), (.int fl)] below meth c s₁ [] 0 0 := Stand.of_body Bd
  have e0 : s₁.heap = h0 := by rw [← hh, Bd.state]; rfl
  have N0 := Fr.nil n0
  obtain ⟨G0, hG0⟩ : ∃ G, G = s₁.setTop (entryFrame m #[(.long qm), (.long qw), (.long qt), (.long qd), (.int fl)] maxLocals) := ⟨_, rfl⟩
  have K0 : ∀ t, Steps p.tables e below (s₁.setTop (mkF m 0 #[.val (.long qm), .second, .val (.long qw), .second, .val (.long qt), .second, .val (.long qd), .second, .val (.int fl), .unset, .unset, .unset, .unset, .unset, .unset, .unset, .unset, .unset, .unset, .unset, .unset, .unset, .unset, .unset, .unset, .unset, .unset] [])) t → Steps p.tables e below G0 t := fun t k => by rw [hG0]; exact castTop (ef_rm0 m qm qw qt qd fl) k
  have K1 : ∀ t, Steps p.tables e below (s₁.setTop (mkF m 4 #[.val (.long qm), .second, .val (.long qw), .second, .val (.long qt), .second, .val (.long qd), .second, .val (.int fl), .unset, .unset, .unset, .unset, .unset, .unset, .unset, .unset, .unset, .unset, .unset, .unset, .unset, .unset, .unset, .unset, .unset, .unset] [(.int (fl &&& (1 : Int32)))])) t → Steps p.tables e below G0 t := by
    intro t kt
    refine K0 t ?_
    refine XS.iload X0.here hx rfl (hb hby at_0) rfl ?_
    show Steps p.tables e below (s₁.setTop (mkF m 2 #[.val (.long qm), .second, .val (.long qw), .second, .val (.long qt), .second, .val (.long qd), .second, .val (.int fl), .unset, .unset, .unset, .unset, .unset, .unset, .unset, .unset, .unset, .unset, .unset, .unset, .unset, .unset, .unset, .unset, .unset, .unset] [(.int fl)])) _
    refine XS.iconst X0.here hx rfl (hb hby at_2) ?_
    show Steps p.tables e below (s₁.setTop (mkF m 3 #[.val (.long qm), .second, .val (.long qw), .second, .val (.long qt), .second, .val (.long qd), .second, .val (.int fl), .unset, .unset, .unset, .unset, .unset, .unset, .unset, .unset, .unset, .unset, .unset, .unset, .unset, .unset, .unset, .unset, .unset, .unset] [(.int (1 : Int32)), (.int fl)])) _
    refine XS.iand X0.here hx rfl (hb hby at_3) rfl ?_
    show Steps p.tables e below (s₁.setTop (mkF m 4 #[.val (.long qm), .second, .val (.long qw), .second, .val (.long qt), .second, .val (.long qd), .second, .val (.int fl), .unset, .unset, .unset, .unset, .unset, .unset, .unset, .unset, .unset, .unset, .unset, .unset, .unset, .unset, .unset, .unset, .unset, .unset] [(.int (fl &&& (1 : Int32)))])) _
    exact kt
  have K2 : ∀ t, Steps p.tables e below (s₁.setTop (mkF m 14 #[.val (.long qm), .second, .val (.long qw), .second, .val (.long qt), .second, .val (.long qd), .second, .val (.int fl), .val (.int (own_b fl)), .unset, .unset, .unset, .unset, .unset, .unset, .unset, .unset, .unset, .unset, .unset, .unset, .unset, .unset, .unset, .unset, .unset] [])) t → Steps p.tables e below G0 t := by
    by_cases hc3 : (fl &&& (1 : Int32)) = (0 : Int32)
    ·
      have K4 : ∀ t, Steps p.tables e below (s₁.setTop (mkF m 14 #[.val (.long qm), .second, .val (.long qw), .second, .val (.long qt), .second, .val (.long qd), .second, .val (.int fl), .val (.int (0 : Int32)), .unset, .unset, .unset, .unset, .unset, .unset, .unset, .unset, .unset, .unset, .unset, .unset, .unset, .unset, .unset, .unset, .unset] [])) t → Steps p.tables e below G0 t := by
        intro t kt
        refine K1 t ?_
        refine XS.ifYes X0.here hx rfl (pc0 := 4) (pc' := 11) rfl (hb hby at_4) rfl ((if0 _ _).trans (teq hc3).1) (by decide) (by decide) ?_
        show Steps p.tables e below (s₁.setTop (mkF m 11 #[.val (.long qm), .second, .val (.long qw), .second, .val (.long qt), .second, .val (.long qd), .second, .val (.int fl), .unset, .unset, .unset, .unset, .unset, .unset, .unset, .unset, .unset, .unset, .unset, .unset, .unset, .unset, .unset, .unset, .unset, .unset] [])) _
        refine XS.iconst X0.here hx rfl (hb hby at_11) ?_
        show Steps p.tables e below (s₁.setTop (mkF m 12 #[.val (.long qm), .second, .val (.long qw), .second, .val (.long qt), .second, .val (.long qd), .second, .val (.int fl), .unset, .unset, .unset, .unset, .unset, .unset, .unset, .unset, .unset, .unset, .unset, .unset, .unset, .unset, .unset, .unset, .unset, .unset] [(.int (0 : Int32))])) _
        refine XS.istore X0.here hx rfl (hb hby at_12) rfl (l' := #[.val (.long qm), .second, .val (.long qw), .second, .val (.long qt), .second, .val (.long qd), .second, .val (.int fl), .val (.int (0 : Int32)), .unset, .unset, .unset, .unset, .unset, .unset, .unset, .unset, .unset, .unset, .unset, .unset, .unset, .unset, .unset, .unset, .unset]) rfl ?_
        show Steps p.tables e below (s₁.setTop (mkF m 14 #[.val (.long qm), .second, .val (.long qw), .second, .val (.long qt), .second, .val (.long qd), .second, .val (.int fl), .val (.int (0 : Int32)), .unset, .unset, .unset, .unset, .unset, .unset, .unset, .unset, .unset, .unset, .unset, .unset, .unset, .unset, .unset, .unset, .unset] [])) _
        exact kt
      have hq : (own_b fl) = (0 : Int32) := by rw [own_b, if_pos hc3]
      rw [hq]
      exact K4
    ·
      have K5 : ∀ t, Steps p.tables e below (s₁.setTop (mkF m 14 #[.val (.long qm), .second, .val (.long qw), .second, .val (.long qt), .second, .val (.long qd), .second, .val (.int fl), .val (.int (1 : Int32)), .unset, .unset, .unset, .unset, .unset, .unset, .unset, .unset, .unset, .unset, .unset, .unset, .unset, .unset, .unset, .unset, .unset] [])) t → Steps p.tables e below G0 t := by
        intro t kt
        refine K1 t ?_
        refine XS.ifNo X0.here hx rfl (hb hby at_4) rfl ((if0 _ _).trans (feq hc3).1) ?_
        show Steps p.tables e below (s₁.setTop (mkF m 7 #[.val (.long qm), .second, .val (.long qw), .second, .val (.long qt), .second, .val (.long qd), .second, .val (.int fl), .unset, .unset, .unset, .unset, .unset, .unset, .unset, .unset, .unset, .unset, .unset, .unset, .unset, .unset, .unset, .unset, .unset, .unset] [])) _
        refine XS.iconst X0.here hx rfl (hb hby at_7) ?_
        show Steps p.tables e below (s₁.setTop (mkF m 8 #[.val (.long qm), .second, .val (.long qw), .second, .val (.long qt), .second, .val (.long qd), .second, .val (.int fl), .unset, .unset, .unset, .unset, .unset, .unset, .unset, .unset, .unset, .unset, .unset, .unset, .unset, .unset, .unset, .unset, .unset, .unset] [(.int (1 : Int32))])) _
        refine XS.goto X0.here hx rfl (pc0 := 8) (pc' := 12) rfl (hb hby at_8) (by decide) (by decide) ?_
        show Steps p.tables e below (s₁.setTop (mkF m 12 #[.val (.long qm), .second, .val (.long qw), .second, .val (.long qt), .second, .val (.long qd), .second, .val (.int fl), .unset, .unset, .unset, .unset, .unset, .unset, .unset, .unset, .unset, .unset, .unset, .unset, .unset, .unset, .unset, .unset, .unset, .unset] [(.int (1 : Int32))])) _
        refine XS.istore X0.here hx rfl (hb hby at_12) rfl (l' := #[.val (.long qm), .second, .val (.long qw), .second, .val (.long qt), .second, .val (.long qd), .second, .val (.int fl), .val (.int (1 : Int32)), .unset, .unset, .unset, .unset, .unset, .unset, .unset, .unset, .unset, .unset, .unset, .unset, .unset, .unset, .unset, .unset, .unset]) rfl ?_
        show Steps p.tables e below (s₁.setTop (mkF m 14 #[.val (.long qm), .second, .val (.long qw), .second, .val (.long qt), .second, .val (.long qd), .second, .val (.int fl), .val (.int (1 : Int32)), .unset, .unset, .unset, .unset, .unset, .unset, .unset, .unset, .unset, .unset, .unset, .unset, .unset, .unset, .unset, .unset, .unset] [])) _
        exact kt
      have hq : (own_b fl) = (1 : Int32) := by rw [own_b, if_neg hc3]
      rw [hq]
      exact K5
  obtain ⟨c, h_c⟩ : ∃ z, z = (own_b fl) := ⟨_, rfl⟩
  rw [← h_c] at K2
  have K6 : ∀ t, Steps p.tables e below (s₁.setTop (mkF m 20 #[.val (.long qm), .second, .val (.long qw), .second, .val (.long qt), .second, .val (.long qd), .second, .val (.int fl), .val (.int c), .val (.long (qd ||| (1 : Int64))), .second, .unset, .unset, .unset, .unset, .unset, .unset, .unset, .unset, .unset, .unset, .unset, .unset, .unset, .unset, .unset] [])) t → Steps p.tables e below G0 t := by
    intro t kt
    refine K2 t ?_
    refine XS.lload X0.here hx rfl (hb hby at_14) rfl ?_
    show Steps p.tables e below (s₁.setTop (mkF m 16 #[.val (.long qm), .second, .val (.long qw), .second, .val (.long qt), .second, .val (.long qd), .second, .val (.int fl), .val (.int c), .unset, .unset, .unset, .unset, .unset, .unset, .unset, .unset, .unset, .unset, .unset, .unset, .unset, .unset, .unset, .unset, .unset] [(.long qd)])) _
    refine XS.lconst X0.here hx rfl (hb hby at_16) ?_
    show Steps p.tables e below (s₁.setTop (mkF m 17 #[.val (.long qm), .second, .val (.long qw), .second, .val (.long qt), .second, .val (.long qd), .second, .val (.int fl), .val (.int c), .unset, .unset, .unset, .unset, .unset, .unset, .unset, .unset, .unset, .unset, .unset, .unset, .unset, .unset, .unset, .unset, .unset] [(.long (1 : Int64)), (.long qd)])) _
    refine XS.lor X0.here hx rfl (hb hby at_17) rfl ?_
    show Steps p.tables e below (s₁.setTop (mkF m 18 #[.val (.long qm), .second, .val (.long qw), .second, .val (.long qt), .second, .val (.long qd), .second, .val (.int fl), .val (.int c), .unset, .unset, .unset, .unset, .unset, .unset, .unset, .unset, .unset, .unset, .unset, .unset, .unset, .unset, .unset, .unset, .unset] [(.long (qd ||| (1 : Int64)))])) _
    refine XS.lstore X0.here hx rfl (hb hby at_18) rfl (l' := #[.val (.long qm), .second, .val (.long qw), .second, .val (.long qt), .second, .val (.long qd), .second, .val (.int fl), .val (.int c), .val (.long (qd ||| (1 : Int64))), .second, .unset, .unset, .unset, .unset, .unset, .unset, .unset, .unset, .unset, .unset, .unset, .unset, .unset, .unset, .unset]) rfl ?_
    show Steps p.tables e below (s₁.setTop (mkF m 20 #[.val (.long qm), .second, .val (.long qw), .second, .val (.long qt), .second, .val (.long qd), .second, .val (.int fl), .val (.int c), .val (.long (qd ||| (1 : Int64))), .second, .unset, .unset, .unset, .unset, .unset, .unset, .unset, .unset, .unset, .unset, .unset, .unset, .unset, .unset, .unset] [])) _
    exact kt
  obtain ⟨dl, h_dl⟩ : ∃ z, z = (qd ||| (1 : Int64)) := ⟨_, rfl⟩
  rw [← h_dl] at K6
  have K7 : ∀ t, Steps p.tables e below (s₁.setTop (mkF m 24 #[.val (.long qm), .second, .val (.long qw), .second, .val (.long qt), .second, .val (.long qd), .second, .val (.int fl), .val (.int c), .val (.long dl), .second, .unset, .unset, .unset, .unset, .unset, .unset, .unset, .unset, .unset, .unset, .unset, .unset, .unset, .unset, .unset] [(.int (fl &&& (2 : Int32)))])) t → Steps p.tables e below G0 t := by
    intro t kt
    refine K6 t ?_
    refine XS.iload X0.here hx rfl (hb hby at_20) rfl ?_
    show Steps p.tables e below (s₁.setTop (mkF m 22 #[.val (.long qm), .second, .val (.long qw), .second, .val (.long qt), .second, .val (.long qd), .second, .val (.int fl), .val (.int c), .val (.long dl), .second, .unset, .unset, .unset, .unset, .unset, .unset, .unset, .unset, .unset, .unset, .unset, .unset, .unset, .unset, .unset] [(.int fl)])) _
    refine XS.iconst X0.here hx rfl (hb hby at_22) ?_
    show Steps p.tables e below (s₁.setTop (mkF m 23 #[.val (.long qm), .second, .val (.long qw), .second, .val (.long qt), .second, .val (.long qd), .second, .val (.int fl), .val (.int c), .val (.long dl), .second, .unset, .unset, .unset, .unset, .unset, .unset, .unset, .unset, .unset, .unset, .unset, .unset, .unset, .unset, .unset] [(.int (2 : Int32)), (.int fl)])) _
    refine XS.iand X0.here hx rfl (hb hby at_23) rfl ?_
    show Steps p.tables e below (s₁.setTop (mkF m 24 #[.val (.long qm), .second, .val (.long qw), .second, .val (.long qt), .second, .val (.long qd), .second, .val (.int fl), .val (.int c), .val (.long dl), .second, .unset, .unset, .unset, .unset, .unset, .unset, .unset, .unset, .unset, .unset, .unset, .unset, .unset, .unset, .unset] [(.int (fl &&& (2 : Int32)))])) _
    exact kt
  have K8 : ∀ t, Steps p.tables e below (s₁.setTop (mkF m 37 #[.val (.long qm), .second, .val (.long qw), .second, .val (.long qt), .second, .val (.long qd), .second, .val (.int fl), .val (.int c), .val (.long dl), .second, .val (.long (own_pick (fl &&& (2 : Int32)) qm (qm + dl))), .second, .unset, .unset, .unset, .unset, .unset, .unset, .unset, .unset, .unset, .unset, .unset, .unset, .unset] [])) t → Steps p.tables e below G0 t := by
    by_cases hc9 : (fl &&& (2 : Int32)) = (0 : Int32)
    ·
      have K10 : ∀ t, Steps p.tables e below (s₁.setTop (mkF m 37 #[.val (.long qm), .second, .val (.long qw), .second, .val (.long qt), .second, .val (.long qd), .second, .val (.int fl), .val (.int c), .val (.long dl), .second, .val (.long qm), .second, .unset, .unset, .unset, .unset, .unset, .unset, .unset, .unset, .unset, .unset, .unset, .unset, .unset] [])) t → Steps p.tables e below G0 t := by
        intro t kt
        refine K7 t ?_
        refine XS.ifYes X0.here hx rfl (pc0 := 24) (pc' := 34) rfl (hb hby at_24) rfl ((if0 _ _).trans (teq hc9).1) (by decide) (by decide) ?_
        show Steps p.tables e below (s₁.setTop (mkF m 34 #[.val (.long qm), .second, .val (.long qw), .second, .val (.long qt), .second, .val (.long qd), .second, .val (.int fl), .val (.int c), .val (.long dl), .second, .unset, .unset, .unset, .unset, .unset, .unset, .unset, .unset, .unset, .unset, .unset, .unset, .unset, .unset, .unset] [])) _
        refine XS.lloadN X0.here hx rfl (hb hby at_34) rfl ?_
        show Steps p.tables e below (s₁.setTop (mkF m 35 #[.val (.long qm), .second, .val (.long qw), .second, .val (.long qt), .second, .val (.long qd), .second, .val (.int fl), .val (.int c), .val (.long dl), .second, .unset, .unset, .unset, .unset, .unset, .unset, .unset, .unset, .unset, .unset, .unset, .unset, .unset, .unset, .unset] [(.long qm)])) _
        refine XS.lstore X0.here hx rfl (hb hby at_35) rfl (l' := #[.val (.long qm), .second, .val (.long qw), .second, .val (.long qt), .second, .val (.long qd), .second, .val (.int fl), .val (.int c), .val (.long dl), .second, .val (.long qm), .second, .unset, .unset, .unset, .unset, .unset, .unset, .unset, .unset, .unset, .unset, .unset, .unset, .unset]) rfl ?_
        show Steps p.tables e below (s₁.setTop (mkF m 37 #[.val (.long qm), .second, .val (.long qw), .second, .val (.long qt), .second, .val (.long qd), .second, .val (.int fl), .val (.int c), .val (.long dl), .second, .val (.long qm), .second, .unset, .unset, .unset, .unset, .unset, .unset, .unset, .unset, .unset, .unset, .unset, .unset, .unset] [])) _
        exact kt
      have hq : (own_pick (fl &&& (2 : Int32)) qm (qm + dl)) = qm := by rw [own_pick, if_pos hc9]
      rw [hq]
      exact K10
    ·
      have K11 : ∀ t, Steps p.tables e below (s₁.setTop (mkF m 37 #[.val (.long qm), .second, .val (.long qw), .second, .val (.long qt), .second, .val (.long qd), .second, .val (.int fl), .val (.int c), .val (.long dl), .second, .val (.long (qm + dl)), .second, .unset, .unset, .unset, .unset, .unset, .unset, .unset, .unset, .unset, .unset, .unset, .unset, .unset] [])) t → Steps p.tables e below G0 t := by
        intro t kt
        refine K7 t ?_
        refine XS.ifNo X0.here hx rfl (hb hby at_24) rfl ((if0 _ _).trans (feq hc9).1) ?_
        show Steps p.tables e below (s₁.setTop (mkF m 27 #[.val (.long qm), .second, .val (.long qw), .second, .val (.long qt), .second, .val (.long qd), .second, .val (.int fl), .val (.int c), .val (.long dl), .second, .unset, .unset, .unset, .unset, .unset, .unset, .unset, .unset, .unset, .unset, .unset, .unset, .unset, .unset, .unset] [])) _
        refine XS.lloadN X0.here hx rfl (hb hby at_27) rfl ?_
        show Steps p.tables e below (s₁.setTop (mkF m 28 #[.val (.long qm), .second, .val (.long qw), .second, .val (.long qt), .second, .val (.long qd), .second, .val (.int fl), .val (.int c), .val (.long dl), .second, .unset, .unset, .unset, .unset, .unset, .unset, .unset, .unset, .unset, .unset, .unset, .unset, .unset, .unset, .unset] [(.long qm)])) _
        refine XS.lload X0.here hx rfl (hb hby at_28) rfl ?_
        show Steps p.tables e below (s₁.setTop (mkF m 30 #[.val (.long qm), .second, .val (.long qw), .second, .val (.long qt), .second, .val (.long qd), .second, .val (.int fl), .val (.int c), .val (.long dl), .second, .unset, .unset, .unset, .unset, .unset, .unset, .unset, .unset, .unset, .unset, .unset, .unset, .unset, .unset, .unset] [(.long dl), (.long qm)])) _
        refine XS.ladd X0.here hx rfl (hb hby at_30) rfl ?_
        show Steps p.tables e below (s₁.setTop (mkF m 31 #[.val (.long qm), .second, .val (.long qw), .second, .val (.long qt), .second, .val (.long qd), .second, .val (.int fl), .val (.int c), .val (.long dl), .second, .unset, .unset, .unset, .unset, .unset, .unset, .unset, .unset, .unset, .unset, .unset, .unset, .unset, .unset, .unset] [(.long (qm + dl))])) _
        refine XS.goto X0.here hx rfl (pc0 := 31) (pc' := 35) rfl (hb hby at_31) (by decide) (by decide) ?_
        show Steps p.tables e below (s₁.setTop (mkF m 35 #[.val (.long qm), .second, .val (.long qw), .second, .val (.long qt), .second, .val (.long qd), .second, .val (.int fl), .val (.int c), .val (.long dl), .second, .unset, .unset, .unset, .unset, .unset, .unset, .unset, .unset, .unset, .unset, .unset, .unset, .unset, .unset, .unset] [(.long (qm + dl))])) _
        refine XS.lstore X0.here hx rfl (hb hby at_35) rfl (l' := #[.val (.long qm), .second, .val (.long qw), .second, .val (.long qt), .second, .val (.long qd), .second, .val (.int fl), .val (.int c), .val (.long dl), .second, .val (.long (qm + dl)), .second, .unset, .unset, .unset, .unset, .unset, .unset, .unset, .unset, .unset, .unset, .unset, .unset, .unset]) rfl ?_
        show Steps p.tables e below (s₁.setTop (mkF m 37 #[.val (.long qm), .second, .val (.long qw), .second, .val (.long qt), .second, .val (.long qd), .second, .val (.int fl), .val (.int c), .val (.long dl), .second, .val (.long (qm + dl)), .second, .unset, .unset, .unset, .unset, .unset, .unset, .unset, .unset, .unset, .unset, .unset, .unset, .unset] [])) _
        exact kt
      have hq : (own_pick (fl &&& (2 : Int32)) qm (qm + dl)) = (qm + dl) := by rw [own_pick, if_neg hc9]
      rw [hq]
      exact K11
  obtain ⟨m2, h_m2⟩ : ∃ z, z = (own_pick (fl &&& (2 : Int32)) qm (qm + dl)) := ⟨_, rfl⟩
  rw [← h_m2] at K8
  have K12 : ∀ t, Steps p.tables e below (s₁.setTop (mkF m 41 #[.val (.long qm), .second, .val (.long qw), .second, .val (.long qt), .second, .val (.long qd), .second, .val (.int fl), .val (.int c), .val (.long dl), .second, .val (.long m2), .second, .unset, .unset, .unset, .unset, .unset, .unset, .unset, .unset, .unset, .unset, .unset, .unset, .unset] [(.int (fl &&& (4 : Int32)))])) t → Steps p.tables e below G0 t := by
    intro t kt
    refine K8 t ?_
    refine XS.iload X0.here hx rfl (hb hby at_37) rfl ?_
    show Steps p.tables e below (s₁.setTop (mkF m 39 #[.val (.long qm), .second, .val (.long qw), .second, .val (.long qt), .second, .val (.long qd), .second, .val (.int fl), .val (.int c), .val (.long dl), .second, .val (.long m2), .second, .unset, .unset, .unset, .unset, .unset, .unset, .unset, .unset, .unset, .unset, .unset, .unset, .unset] [(.int fl)])) _
    refine XS.iconst X0.here hx rfl (hb hby at_39) ?_
    show Steps p.tables e below (s₁.setTop (mkF m 40 #[.val (.long qm), .second, .val (.long qw), .second, .val (.long qt), .second, .val (.long qd), .second, .val (.int fl), .val (.int c), .val (.long dl), .second, .val (.long m2), .second, .unset, .unset, .unset, .unset, .unset, .unset, .unset, .unset, .unset, .unset, .unset, .unset, .unset] [(.int (4 : Int32)), (.int fl)])) _
    refine XS.iand X0.here hx rfl (hb hby at_40) rfl ?_
    show Steps p.tables e below (s₁.setTop (mkF m 41 #[.val (.long qm), .second, .val (.long qw), .second, .val (.long qt), .second, .val (.long qd), .second, .val (.int fl), .val (.int c), .val (.long dl), .second, .val (.long m2), .second, .unset, .unset, .unset, .unset, .unset, .unset, .unset, .unset, .unset, .unset, .unset, .unset, .unset] [(.int (fl &&& (4 : Int32)))])) _
    exact kt
  have K13 : ∀ t, Steps p.tables e below (s₁.setTop (mkF m 61 #[.val (.long qm), .second, .val (.long qw), .second, .val (.long qt), .second, .val (.long qd), .second, .val (.int fl), .val (.int c), .val (.long dl), .second, .val (.long m2), .second, .val (.int (own_c2 fl c)), .unset, .unset, .unset, .unset, .unset, .unset, .unset, .unset, .unset, .unset, .unset, .unset] [])) t → Steps p.tables e below G0 t := by
    by_cases hc14 : (fl &&& (4 : Int32)) = (0 : Int32)
    ·
      have K15 : ∀ t, Steps p.tables e below (s₁.setTop (mkF m 61 #[.val (.long qm), .second, .val (.long qw), .second, .val (.long qt), .second, .val (.long qd), .second, .val (.int fl), .val (.int c), .val (.long dl), .second, .val (.long m2), .second, .val (.int c), .unset, .unset, .unset, .unset, .unset, .unset, .unset, .unset, .unset, .unset, .unset, .unset] [])) t → Steps p.tables e below G0 t := by
        intro t kt
        refine K12 t ?_
        refine XS.ifYes X0.here hx rfl (pc0 := 41) (pc' := 57) rfl (hb hby at_41) rfl ((if0 _ _).trans (teq hc14).1) (by decide) (by decide) ?_
        show Steps p.tables e below (s₁.setTop (mkF m 57 #[.val (.long qm), .second, .val (.long qw), .second, .val (.long qt), .second, .val (.long qd), .second, .val (.int fl), .val (.int c), .val (.long dl), .second, .val (.long m2), .second, .unset, .unset, .unset, .unset, .unset, .unset, .unset, .unset, .unset, .unset, .unset, .unset, .unset] [])) _
        refine XS.iload X0.here hx rfl (hb hby at_57) rfl ?_
        show Steps p.tables e below (s₁.setTop (mkF m 59 #[.val (.long qm), .second, .val (.long qw), .second, .val (.long qt), .second, .val (.long qd), .second, .val (.int fl), .val (.int c), .val (.long dl), .second, .val (.long m2), .second, .unset, .unset, .unset, .unset, .unset, .unset, .unset, .unset, .unset, .unset, .unset, .unset, .unset] [(.int c)])) _
        refine XS.istore X0.here hx rfl (hb hby at_59) rfl (l' := #[.val (.long qm), .second, .val (.long qw), .second, .val (.long qt), .second, .val (.long qd), .second, .val (.int fl), .val (.int c), .val (.long dl), .second, .val (.long m2), .second, .val (.int c), .unset, .unset, .unset, .unset, .unset, .unset, .unset, .unset, .unset, .unset, .unset, .unset]) rfl ?_
        show Steps p.tables e below (s₁.setTop (mkF m 61 #[.val (.long qm), .second, .val (.long qw), .second, .val (.long qt), .second, .val (.long qd), .second, .val (.int fl), .val (.int c), .val (.long dl), .second, .val (.long m2), .second, .val (.int c), .unset, .unset, .unset, .unset, .unset, .unset, .unset, .unset, .unset, .unset, .unset, .unset] [])) _
        exact kt
      have hq : (own_c2 fl c) = c := by rw [own_c2, if_pos hc14]
      rw [hq]
      exact K15
    ·
      have K16 : ∀ t, Steps p.tables e below (s₁.setTop (mkF m 46 #[.val (.long qm), .second, .val (.long qw), .second, .val (.long qt), .second, .val (.long qd), .second, .val (.int fl), .val (.int c), .val (.long dl), .second, .val (.long m2), .second, .unset, .unset, .unset, .unset, .unset, .unset, .unset, .unset, .unset, .unset, .unset, .unset, .unset] [(.int c)])) t → Steps p.tables e below G0 t := by
        intro t kt
        refine K12 t ?_
        refine XS.ifNo X0.here hx rfl (hb hby at_41) rfl ((if0 _ _).trans (feq hc14).1) ?_
        show Steps p.tables e below (s₁.setTop (mkF m 44 #[.val (.long qm), .second, .val (.long qw), .second, .val (.long qt), .second, .val (.long qd), .second, .val (.int fl), .val (.int c), .val (.long dl), .second, .val (.long m2), .second, .unset, .unset, .unset, .unset, .unset, .unset, .unset, .unset, .unset, .unset, .unset, .unset, .unset] [])) _
        refine XS.iload X0.here hx rfl (hb hby at_44) rfl ?_
        show Steps p.tables e below (s₁.setTop (mkF m 46 #[.val (.long qm), .second, .val (.long qw), .second, .val (.long qt), .second, .val (.long qd), .second, .val (.int fl), .val (.int c), .val (.long dl), .second, .val (.long m2), .second, .unset, .unset, .unset, .unset, .unset, .unset, .unset, .unset, .unset, .unset, .unset, .unset, .unset] [(.int c)])) _
        exact kt
      by_cases hc17 : c = (0 : Int32)
      ·
        have K18 : ∀ t, Steps p.tables e below (s₁.setTop (mkF m 61 #[.val (.long qm), .second, .val (.long qw), .second, .val (.long qt), .second, .val (.long qd), .second, .val (.int fl), .val (.int c), .val (.long dl), .second, .val (.long m2), .second, .val (.int (1 : Int32)), .unset, .unset, .unset, .unset, .unset, .unset, .unset, .unset, .unset, .unset, .unset, .unset] [])) t → Steps p.tables e below G0 t := by
          intro t kt
          refine K16 t ?_
          refine XS.ifNo X0.here hx rfl (hb hby at_46) rfl ((if0 _ _).trans (teq hc17).2) ?_
          show Steps p.tables e below (s₁.setTop (mkF m 49 #[.val (.long qm), .second, .val (.long qw), .second, .val (.long qt), .second, .val (.long qd), .second, .val (.int fl), .val (.int c), .val (.long dl), .second, .val (.long m2), .second, .unset, .unset, .unset, .unset, .unset, .unset, .unset, .unset, .unset, .unset, .unset, .unset, .unset] [])) _
          refine XS.iconst X0.here hx rfl (hb hby at_49) ?_
          show Steps p.tables e below (s₁.setTop (mkF m 50 #[.val (.long qm), .second, .val (.long qw), .second, .val (.long qt), .second, .val (.long qd), .second, .val (.int fl), .val (.int c), .val (.long dl), .second, .val (.long m2), .second, .unset, .unset, .unset, .unset, .unset, .unset, .unset, .unset, .unset, .unset, .unset, .unset, .unset] [(.int (1 : Int32))])) _
          refine XS.goto X0.here hx rfl (pc0 := 50) (pc' := 59) rfl (hb hby at_50) (by decide) (by decide) ?_
          show Steps p.tables e below (s₁.setTop (mkF m 59 #[.val (.long qm), .second, .val (.long qw), .second, .val (.long qt), .second, .val (.long qd), .second, .val (.int fl), .val (.int c), .val (.long dl), .second, .val (.long m2), .second, .unset, .unset, .unset, .unset, .unset, .unset, .unset, .unset, .unset, .unset, .unset, .unset, .unset] [(.int (1 : Int32))])) _
          refine XS.istore X0.here hx rfl (hb hby at_59) rfl (l' := #[.val (.long qm), .second, .val (.long qw), .second, .val (.long qt), .second, .val (.long qd), .second, .val (.int fl), .val (.int c), .val (.long dl), .second, .val (.long m2), .second, .val (.int (1 : Int32)), .unset, .unset, .unset, .unset, .unset, .unset, .unset, .unset, .unset, .unset, .unset, .unset]) rfl ?_
          show Steps p.tables e below (s₁.setTop (mkF m 61 #[.val (.long qm), .second, .val (.long qw), .second, .val (.long qt), .second, .val (.long qd), .second, .val (.int fl), .val (.int c), .val (.long dl), .second, .val (.long m2), .second, .val (.int (1 : Int32)), .unset, .unset, .unset, .unset, .unset, .unset, .unset, .unset, .unset, .unset, .unset, .unset] [])) _
          exact kt
        have hq : (own_c2 fl c) = (1 : Int32) := by rw [own_c2, if_neg hc14, if_pos hc17]
        rw [hq]
        exact K18
      ·
        have K19 : ∀ t, Steps p.tables e below (s₁.setTop (mkF m 61 #[.val (.long qm), .second, .val (.long qw), .second, .val (.long qt), .second, .val (.long qd), .second, .val (.int fl), .val (.int c), .val (.long dl), .second, .val (.long m2), .second, .val (.int (0 : Int32)), .unset, .unset, .unset, .unset, .unset, .unset, .unset, .unset, .unset, .unset, .unset, .unset] [])) t → Steps p.tables e below G0 t := by
          intro t kt
          refine K16 t ?_
          refine XS.ifYes X0.here hx rfl (pc0 := 46) (pc' := 53) rfl (hb hby at_46) rfl ((if0 _ _).trans (feq hc17).2) (by decide) (by decide) ?_
          show Steps p.tables e below (s₁.setTop (mkF m 53 #[.val (.long qm), .second, .val (.long qw), .second, .val (.long qt), .second, .val (.long qd), .second, .val (.int fl), .val (.int c), .val (.long dl), .second, .val (.long m2), .second, .unset, .unset, .unset, .unset, .unset, .unset, .unset, .unset, .unset, .unset, .unset, .unset, .unset] [])) _
          refine XS.iconst X0.here hx rfl (hb hby at_53) ?_
          show Steps p.tables e below (s₁.setTop (mkF m 54 #[.val (.long qm), .second, .val (.long qw), .second, .val (.long qt), .second, .val (.long qd), .second, .val (.int fl), .val (.int c), .val (.long dl), .second, .val (.long m2), .second, .unset, .unset, .unset, .unset, .unset, .unset, .unset, .unset, .unset, .unset, .unset, .unset, .unset] [(.int (0 : Int32))])) _
          refine XS.goto X0.here hx rfl (pc0 := 54) (pc' := 59) rfl (hb hby at_54) (by decide) (by decide) ?_
          show Steps p.tables e below (s₁.setTop (mkF m 59 #[.val (.long qm), .second, .val (.long qw), .second, .val (.long qt), .second, .val (.long qd), .second, .val (.int fl), .val (.int c), .val (.long dl), .second, .val (.long m2), .second, .unset, .unset, .unset, .unset, .unset, .unset, .unset, .unset, .unset, .unset, .unset, .unset, .unset] [(.int (0 : Int32))])) _
          refine XS.istore X0.here hx rfl (hb hby at_59) rfl (l' := #[.val (.long qm), .second, .val (.long qw), .second, .val (.long qt), .second, .val (.long qd), .second, .val (.int fl), .val (.int c), .val (.long dl), .second, .val (.long m2), .second, .val (.int (0 : Int32)), .unset, .unset, .unset, .unset, .unset, .unset, .unset, .unset, .unset, .unset, .unset, .unset]) rfl ?_
          show Steps p.tables e below (s₁.setTop (mkF m 61 #[.val (.long qm), .second, .val (.long qw), .second, .val (.long qt), .second, .val (.long qd), .second, .val (.int fl), .val (.int c), .val (.long dl), .second, .val (.long m2), .second, .val (.int (0 : Int32)), .unset, .unset, .unset, .unset, .unset, .unset, .unset, .unset, .unset, .unset, .unset, .unset] [])) _
          exact kt
        have hq : (own_c2 fl c) = (0 : Int32) := by rw [own_c2, if_neg hc14, if_neg hc17]
        rw [hq]
        exact K19
  obtain ⟨c2, h_c2⟩ : ∃ z, z = (own_c2 fl c) := ⟨_, rfl⟩
  rw [← h_c2] at K13
  have K20 : ∀ t, Steps p.tables e below (s₁.setTop (mkF m 66 #[.val (.long qm), .second, .val (.long qw), .second, .val (.long qt), .second, .val (.long qd), .second, .val (.int fl), .val (.int c), .val (.long dl), .second, .val (.long m2), .second, .val (.int c2), .unset, .unset, .unset, .unset, .unset, .unset, .unset, .unset, .unset, .unset, .unset, .unset] [(.int (fl &&& (8 : Int32)))])) t → Steps p.tables e below G0 t := by
    intro t kt
    refine K13 t ?_
    refine XS.iload X0.here hx rfl (hb hby at_61) rfl ?_
    show Steps p.tables e below (s₁.setTop (mkF m 63 #[.val (.long qm), .second, .val (.long qw), .second, .val (.long qt), .second, .val (.long qd), .second, .val (.int fl), .val (.int c), .val (.long dl), .second, .val (.long m2), .second, .val (.int c2), .unset, .unset, .unset, .unset, .unset, .unset, .unset, .unset, .unset, .unset, .unset, .unset] [(.int fl)])) _
    refine XS.bipush X0.here hx rfl (hb hby at_63) ?_
    show Steps p.tables e below (s₁.setTop (mkF m 65 #[.val (.long qm), .second, .val (.long qw), .second, .val (.long qt), .second, .val (.long qd), .second, .val (.int fl), .val (.int c), .val (.long dl), .second, .val (.long m2), .second, .val (.int c2), .unset, .unset, .unset, .unset, .unset, .unset, .unset, .unset, .unset, .unset, .unset, .unset] [(.int (8 : Int32)), (.int fl)])) _
    refine XS.iand X0.here hx rfl (hb hby at_65) rfl ?_
    show Steps p.tables e below (s₁.setTop (mkF m 66 #[.val (.long qm), .second, .val (.long qw), .second, .val (.long qt), .second, .val (.long qd), .second, .val (.int fl), .val (.int c), .val (.long dl), .second, .val (.long m2), .second, .val (.int c2), .unset, .unset, .unset, .unset, .unset, .unset, .unset, .unset, .unset, .unset, .unset, .unset] [(.int (fl &&& (8 : Int32)))])) _
    exact kt
  have K21 : ∀ t, Steps p.tables e below (s₁.setTop (mkF m 79 #[.val (.long qm), .second, .val (.long qw), .second, .val (.long qt), .second, .val (.long qd), .second, .val (.int fl), .val (.int c), .val (.long dl), .second, .val (.long m2), .second, .val (.int c2), .val (.long (own_pick (fl &&& (8 : Int32)) qw (qw + dl))), .second, .unset, .unset, .unset, .unset, .unset, .unset, .unset, .unset, .unset, .unset] [])) t → Steps p.tables e below G0 t := by
    by_cases hc22 : (fl &&& (8 : Int32)) = (0 : Int32)
    ·
      have K23 : ∀ t, Steps p.tables e below (s₁.setTop (mkF m 79 #[.val (.long qm), .second, .val (.long qw), .second, .val (.long qt), .second, .val (.long qd), .second, .val (.int fl), .val (.int c), .val (.long dl), .second, .val (.long m2), .second, .val (.int c2), .val (.long qw), .second, .unset, .unset, .unset, .unset, .unset, .unset, .unset, .unset, .unset, .unset] [])) t → Steps p.tables e below G0 t := by
        intro t kt
        refine K20 t ?_
        refine XS.ifYes X0.here hx rfl (pc0 := 66) (pc' := 76) rfl (hb hby at_66) rfl ((if0 _ _).trans (teq hc22).1) (by decide) (by decide) ?_
        show Steps p.tables e below (s₁.setTop (mkF m 76 #[.val (.long qm), .second, .val (.long qw), .second, .val (.long qt), .second, .val (.long qd), .second, .val (.int fl), .val (.int c), .val (.long dl), .second, .val (.long m2), .second, .val (.int c2), .unset, .unset, .unset, .unset, .unset, .unset, .unset, .unset, .unset, .unset, .unset, .unset] [])) _
        refine XS.lloadN X0.here hx rfl (hb hby at_76) rfl ?_
        show Steps p.tables e below (s₁.setTop (mkF m 77 #[.val (.long qm), .second, .val (.long qw), .second, .val (.long qt), .second, .val (.long qd), .second, .val (.int fl), .val (.int c), .val (.long dl), .second, .val (.long m2), .second, .val (.int c2), .unset, .unset, .unset, .unset, .unset, .unset, .unset, .unset, .unset, .unset, .unset, .unset] [(.long qw)])) _
        refine XS.lstore X0.here hx rfl (hb hby at_77) rfl (l' := #[.val (.long qm), .second, .val (.long qw), .second, .val (.long qt), .second, .val (.long qd), .second, .val (.int fl), .val (.int c), .val (.long dl), .second, .val (.long m2), .second, .val (.int c2), .val (.long qw), .second, .unset, .unset, .unset, .unset, .unset, .unset, .unset, .unset, .unset, .unset]) rfl ?_
        show Steps p.tables e below (s₁.setTop (mkF m 79 #[.val (.long qm), .second, .val (.long qw), .second, .val (.long qt), .second, .val (.long qd), .second, .val (.int fl), .val (.int c), .val (.long dl), .second, .val (.long m2), .second, .val (.int c2), .val (.long qw), .second, .unset, .unset, .unset, .unset, .unset, .unset, .unset, .unset, .unset, .unset] [])) _
        exact kt
      have hq : (own_pick (fl &&& (8 : Int32)) qw (qw + dl)) = qw := by rw [own_pick, if_pos hc22]
      rw [hq]
      exact K23
    ·
      have K24 : ∀ t, Steps p.tables e below (s₁.setTop (mkF m 79 #[.val (.long qm), .second, .val (.long qw), .second, .val (.long qt), .second, .val (.long qd), .second, .val (.int fl), .val (.int c), .val (.long dl), .second, .val (.long m2), .second, .val (.int c2), .val (.long (qw + dl)), .second, .unset, .unset, .unset, .unset, .unset, .unset, .unset, .unset, .unset, .unset] [])) t → Steps p.tables e below G0 t := by
        intro t kt
        refine K20 t ?_
        refine XS.ifNo X0.here hx rfl (hb hby at_66) rfl ((if0 _ _).trans (feq hc22).1) ?_
        show Steps p.tables e below (s₁.setTop (mkF m 69 #[.val (.long qm), .second, .val (.long qw), .second, .val (.long qt), .second, .val (.long qd), .second, .val (.int fl), .val (.int c), .val (.long dl), .second, .val (.long m2), .second, .val (.int c2), .unset, .unset, .unset, .unset, .unset, .unset, .unset, .unset, .unset, .unset, .unset, .unset] [])) _
        refine XS.lloadN X0.here hx rfl (hb hby at_69) rfl ?_
        show Steps p.tables e below (s₁.setTop (mkF m 70 #[.val (.long qm), .second, .val (.long qw), .second, .val (.long qt), .second, .val (.long qd), .second, .val (.int fl), .val (.int c), .val (.long dl), .second, .val (.long m2), .second, .val (.int c2), .unset, .unset, .unset, .unset, .unset, .unset, .unset, .unset, .unset, .unset, .unset, .unset] [(.long qw)])) _
        refine XS.lload X0.here hx rfl (hb hby at_70) rfl ?_
        show Steps p.tables e below (s₁.setTop (mkF m 72 #[.val (.long qm), .second, .val (.long qw), .second, .val (.long qt), .second, .val (.long qd), .second, .val (.int fl), .val (.int c), .val (.long dl), .second, .val (.long m2), .second, .val (.int c2), .unset, .unset, .unset, .unset, .unset, .unset, .unset, .unset, .unset, .unset, .unset, .unset] [(.long dl), (.long qw)])) _
        refine XS.ladd X0.here hx rfl (hb hby at_72) rfl ?_
        show Steps p.tables e below (s₁.setTop (mkF m 73 #[.val (.long qm), .second, .val (.long qw), .second, .val (.long qt), .second, .val (.long qd), .second, .val (.int fl), .val (.int c), .val (.long dl), .second, .val (.long m2), .second, .val (.int c2), .unset, .unset, .unset, .unset, .unset, .unset, .unset, .unset, .unset, .unset, .unset, .unset] [(.long (qw + dl))])) _
        refine XS.goto X0.here hx rfl (pc0 := 73) (pc' := 77) rfl (hb hby at_73) (by decide) (by decide) ?_
        show Steps p.tables e below (s₁.setTop (mkF m 77 #[.val (.long qm), .second, .val (.long qw), .second, .val (.long qt), .second, .val (.long qd), .second, .val (.int fl), .val (.int c), .val (.long dl), .second, .val (.long m2), .second, .val (.int c2), .unset, .unset, .unset, .unset, .unset, .unset, .unset, .unset, .unset, .unset, .unset, .unset] [(.long (qw + dl))])) _
        refine XS.lstore X0.here hx rfl (hb hby at_77) rfl (l' := #[.val (.long qm), .second, .val (.long qw), .second, .val (.long qt), .second, .val (.long qd), .second, .val (.int fl), .val (.int c), .val (.long dl), .second, .val (.long m2), .second, .val (.int c2), .val (.long (qw + dl)), .second, .unset, .unset, .unset, .unset, .unset, .unset, .unset, .unset, .unset, .unset]) rfl ?_
        show Steps p.tables e below (s₁.setTop (mkF m 79 #[.val (.long qm), .second, .val (.long qw), .second, .val (.long qt), .second, .val (.long qd), .second, .val (.int fl), .val (.int c), .val (.long dl), .second, .val (.long m2), .second, .val (.int c2), .val (.long (qw + dl)), .second, .unset, .unset, .unset, .unset, .unset, .unset, .unset, .unset, .unset, .unset] [])) _
        exact kt
      have hq : (own_pick (fl &&& (8 : Int32)) qw (qw + dl)) = (qw + dl) := by rw [own_pick, if_neg hc22]
      rw [hq]
      exact K24
  obtain ⟨w2, h_w2⟩ : ∃ z, z = (own_pick (fl &&& (8 : Int32)) qw (qw + dl)) := ⟨_, rfl⟩
  rw [← h_w2] at K21
  have K25 : ∀ t, Steps p.tables e below (s₁.setTop (mkF m 84 #[.val (.long qm), .second, .val (.long qw), .second, .val (.long qt), .second, .val (.long qd), .second, .val (.int fl), .val (.int c), .val (.long dl), .second, .val (.long m2), .second, .val (.int c2), .val (.long w2), .second, .unset, .unset, .unset, .unset, .unset, .unset, .unset, .unset, .unset, .unset] [(.int (fl &&& (16 : Int32)))])) t → Steps p.tables e below G0 t := by
    intro t kt
    refine K21 t ?_
    refine XS.iload X0.here hx rfl (hb hby at_79) rfl ?_
    show Steps p.tables e below (s₁.setTop (mkF m 81 #[.val (.long qm), .second, .val (.long qw), .second, .val (.long qt), .second, .val (.long qd), .second, .val (.int fl), .val (.int c), .val (.long dl), .second, .val (.long m2), .second, .val (.int c2), .val (.long w2), .second, .unset, .unset, .unset, .unset, .unset, .unset, .unset, .unset, .unset, .unset] [(.int fl)])) _
    refine XS.bipush X0.here hx rfl (hb hby at_81) ?_
    show Steps p.tables e below (s₁.setTop (mkF m 83 #[.val (.long qm), .second, .val (.long qw), .second, .val (.long qt), .second, .val (.long qd), .second, .val (.int fl), .val (.int c), .val (.long dl), .second, .val (.long m2), .second, .val (.int c2), .val (.long w2), .second, .unset, .unset, .unset, .unset, .unset, .unset, .unset, .unset, .unset, .unset] [(.int (16 : Int32)), (.int fl)])) _
    refine XS.iand X0.here hx rfl (hb hby at_83) rfl ?_
    show Steps p.tables e below (s₁.setTop (mkF m 84 #[.val (.long qm), .second, .val (.long qw), .second, .val (.long qt), .second, .val (.long qd), .second, .val (.int fl), .val (.int c), .val (.long dl), .second, .val (.long m2), .second, .val (.int c2), .val (.long w2), .second, .unset, .unset, .unset, .unset, .unset, .unset, .unset, .unset, .unset, .unset] [(.int (fl &&& (16 : Int32)))])) _
    exact kt
  have K26 : ∀ t, Steps p.tables e below (s₁.setTop (mkF m 99 #[.val (.long qm), .second, .val (.long qw), .second, .val (.long qt), .second, .val (.long qd), .second, .val (.int fl), .val (.int c), .val (.long dl), .second, .val (.long m2), .second, .val (.int c2), .val (.long w2), .second, .val (.long (own_pick (fl &&& (16 : Int32)) qt (qt + dl))), .second, .unset, .unset, .unset, .unset, .unset, .unset, .unset, .unset] [])) t → Steps p.tables e below G0 t := by
    by_cases hc27 : (fl &&& (16 : Int32)) = (0 : Int32)
    ·
      have K28 : ∀ t, Steps p.tables e below (s₁.setTop (mkF m 99 #[.val (.long qm), .second, .val (.long qw), .second, .val (.long qt), .second, .val (.long qd), .second, .val (.int fl), .val (.int c), .val (.long dl), .second, .val (.long m2), .second, .val (.int c2), .val (.long w2), .second, .val (.long qt), .second, .unset, .unset, .unset, .unset, .unset, .unset, .unset, .unset] [])) t → Steps p.tables e below G0 t := by
        intro t kt
        refine K25 t ?_
        refine XS.ifYes X0.here hx rfl (pc0 := 84) (pc' := 95) rfl (hb hby at_84) rfl ((if0 _ _).trans (teq hc27).1) (by decide) (by decide) ?_
        show Steps p.tables e below (s₁.setTop (mkF m 95 #[.val (.long qm), .second, .val (.long qw), .second, .val (.long qt), .second, .val (.long qd), .second, .val (.int fl), .val (.int c), .val (.long dl), .second, .val (.long m2), .second, .val (.int c2), .val (.long w2), .second, .unset, .unset, .unset, .unset, .unset, .unset, .unset, .unset, .unset, .unset] [])) _
        refine XS.lload X0.here hx rfl (hb hby at_95) rfl ?_
        show Steps p.tables e below (s₁.setTop (mkF m 97 #[.val (.long qm), .second, .val (.long qw), .second, .val (.long qt), .second, .val (.long qd), .second, .val (.int fl), .val (.int c), .val (.long dl), .second, .val (.long m2), .second, .val (.int c2), .val (.long w2), .second, .unset, .unset, .unset, .unset, .unset, .unset, .unset, .unset, .unset, .unset] [(.long qt)])) _
        refine XS.lstore X0.here hx rfl (hb hby at_97) rfl (l' := #[.val (.long qm), .second, .val (.long qw), .second, .val (.long qt), .second, .val (.long qd), .second, .val (.int fl), .val (.int c), .val (.long dl), .second, .val (.long m2), .second, .val (.int c2), .val (.long w2), .second, .val (.long qt), .second, .unset, .unset, .unset, .unset, .unset, .unset, .unset, .unset]) rfl ?_
        show Steps p.tables e below (s₁.setTop (mkF m 99 #[.val (.long qm), .second, .val (.long qw), .second, .val (.long qt), .second, .val (.long qd), .second, .val (.int fl), .val (.int c), .val (.long dl), .second, .val (.long m2), .second, .val (.int c2), .val (.long w2), .second, .val (.long qt), .second, .unset, .unset, .unset, .unset, .unset, .unset, .unset, .unset] [])) _
        exact kt
      have hq : (own_pick (fl &&& (16 : Int32)) qt (qt + dl)) = qt := by rw [own_pick, if_pos hc27]
      rw [hq]
      exact K28
    ·
      have K29 : ∀ t, Steps p.tables e below (s₁.setTop (mkF m 99 #[.val (.long qm), .second, .val (.long qw), .second, .val (.long qt), .second, .val (.long qd), .second, .val (.int fl), .val (.int c), .val (.long dl), .second, .val (.long m2), .second, .val (.int c2), .val (.long w2), .second, .val (.long (qt + dl)), .second, .unset, .unset, .unset, .unset, .unset, .unset, .unset, .unset] [])) t → Steps p.tables e below G0 t := by
        intro t kt
        refine K25 t ?_
        refine XS.ifNo X0.here hx rfl (hb hby at_84) rfl ((if0 _ _).trans (feq hc27).1) ?_
        show Steps p.tables e below (s₁.setTop (mkF m 87 #[.val (.long qm), .second, .val (.long qw), .second, .val (.long qt), .second, .val (.long qd), .second, .val (.int fl), .val (.int c), .val (.long dl), .second, .val (.long m2), .second, .val (.int c2), .val (.long w2), .second, .unset, .unset, .unset, .unset, .unset, .unset, .unset, .unset, .unset, .unset] [])) _
        refine XS.lload X0.here hx rfl (hb hby at_87) rfl ?_
        show Steps p.tables e below (s₁.setTop (mkF m 89 #[.val (.long qm), .second, .val (.long qw), .second, .val (.long qt), .second, .val (.long qd), .second, .val (.int fl), .val (.int c), .val (.long dl), .second, .val (.long m2), .second, .val (.int c2), .val (.long w2), .second, .unset, .unset, .unset, .unset, .unset, .unset, .unset, .unset, .unset, .unset] [(.long qt)])) _
        refine XS.lload X0.here hx rfl (hb hby at_89) rfl ?_
        show Steps p.tables e below (s₁.setTop (mkF m 91 #[.val (.long qm), .second, .val (.long qw), .second, .val (.long qt), .second, .val (.long qd), .second, .val (.int fl), .val (.int c), .val (.long dl), .second, .val (.long m2), .second, .val (.int c2), .val (.long w2), .second, .unset, .unset, .unset, .unset, .unset, .unset, .unset, .unset, .unset, .unset] [(.long dl), (.long qt)])) _
        refine XS.ladd X0.here hx rfl (hb hby at_91) rfl ?_
        show Steps p.tables e below (s₁.setTop (mkF m 92 #[.val (.long qm), .second, .val (.long qw), .second, .val (.long qt), .second, .val (.long qd), .second, .val (.int fl), .val (.int c), .val (.long dl), .second, .val (.long m2), .second, .val (.int c2), .val (.long w2), .second, .unset, .unset, .unset, .unset, .unset, .unset, .unset, .unset, .unset, .unset] [(.long (qt + dl))])) _
        refine XS.goto X0.here hx rfl (pc0 := 92) (pc' := 97) rfl (hb hby at_92) (by decide) (by decide) ?_
        show Steps p.tables e below (s₁.setTop (mkF m 97 #[.val (.long qm), .second, .val (.long qw), .second, .val (.long qt), .second, .val (.long qd), .second, .val (.int fl), .val (.int c), .val (.long dl), .second, .val (.long m2), .second, .val (.int c2), .val (.long w2), .second, .unset, .unset, .unset, .unset, .unset, .unset, .unset, .unset, .unset, .unset] [(.long (qt + dl))])) _
        refine XS.lstore X0.here hx rfl (hb hby at_97) rfl (l' := #[.val (.long qm), .second, .val (.long qw), .second, .val (.long qt), .second, .val (.long qd), .second, .val (.int fl), .val (.int c), .val (.long dl), .second, .val (.long m2), .second, .val (.int c2), .val (.long w2), .second, .val (.long (qt + dl)), .second, .unset, .unset, .unset, .unset, .unset, .unset, .unset, .unset]) rfl ?_
        show Steps p.tables e below (s₁.setTop (mkF m 99 #[.val (.long qm), .second, .val (.long qw), .second, .val (.long qt), .second, .val (.long qd), .second, .val (.int fl), .val (.int c), .val (.long dl), .second, .val (.long m2), .second, .val (.int c2), .val (.long w2), .second, .val (.long (qt + dl)), .second, .unset, .unset, .unset, .unset, .unset, .unset, .unset, .unset] [])) _
        exact kt
      have hq : (own_pick (fl &&& (16 : Int32)) qt (qt + dl)) = (qt + dl) := by rw [own_pick, if_neg hc27]
      rw [hq]
      exact K29
  obtain ⟨t2, h_t2⟩ : ∃ z, z = (own_pick (fl &&& (16 : Int32)) qt (qt + dl)) := ⟨_, rfl⟩
  rw [← h_t2] at K26
  have hmain := own_main fl c qm qw qt qd m2 w2 t2 dl c2 h_c h_dl h_m2 h_c2 h_w2 h_t2
  obtain ⟨T30, h30, X30, e30, E30, A30, D30, -, st30⟩ := newO X0 hx hZ hown (hw _ (List.mem_of_getElem? (i := 0) rfl)) (hw _ (List.mem_of_getElem? (i := 1) rfl)) (hw _ (List.mem_of_getElem? (i := 2) rfl)) e0 (g := (mkF m 99 #[.val (.long qm), .second, .val (.long qw), .second, .val (.long qt), .second, .val (.long qd), .second, .val (.int fl), .val (.int c), .val (.long dl), .second, .val (.long m2), .second, .val (.int c2), .val (.long w2), .second, .val (.long t2), .second, .unset, .unset, .unset, .unset, .unset, .unset, .unset, .unset] [])) rfl (hb hby at_99) (by decide) (by decide)
  obtain ⟨b30, g30⟩ : ∃ z, z = h0.size := ⟨_, rfl⟩
  rw [← g30] at A30 D30 st30
  have gn30 : n0 ≤ b30 := Nat.le_trans Z0 (Nat.le_of_eq g30.symm)
  have Z30 : n0 ≤ h30.size := Nat.le_trans Z0 E30.1
  have K30 : ∀ t, Steps p.tables e below (T30.setTop (mkF m 102 #[.val (.long qm), .second, .val (.long qw), .second, .val (.long qt), .second, .val (.long qd), .second, .val (.int fl), .val (.int c), .val (.long dl), .second, .val (.long m2), .second, .val (.int c2), .val (.long w2), .second, .val (.long t2), .second, .unset, .unset, .unset, .unset, .unset, .unset, .unset, .unset] [(.ref b30)])) t → Steps p.tables e below G0 t := fun t kt => K26 t (st30 _ kt)
  have F_milliVcores_b30 := (D30 (Or.inr (hw _ (List.mem_of_getElem? (i := 10) rfl))) (ty := .long) (by decide) : Fld Z h30 b30 "com/example/slackwise/slackwise/replay/JobOutcome" "milliVcores" "J" (.long (0 : Int64)))
  have F_completed_b30 := (D30 (Or.inr (hw _ (List.mem_of_getElem? (i := 12) rfl))) (ty := .boolean) (by decide) : Fld Z h30 b30 "com/example/slackwise/slackwise/replay/JobOutcome" "completed" "Z" (.int (0 : Int32)))
  have F_waitS_b30 := (D30 (Or.inr (hw _ (List.mem_of_getElem? (i := 14) rfl))) (ty := .long) (by decide) : Fld Z h30 b30 "com/example/slackwise/slackwise/replay/JobOutcome" "waitS" "J" (.long (0 : Int64)))
  have F_completionS_b30 := (D30 (Or.inr (hw _ (List.mem_of_getElem? (i := 16) rfl))) (ty := .long) (by decide) : Fld Z h30 b30 "com/example/slackwise/slackwise/replay/JobOutcome" "completionS" "J" (.long (0 : Int64)))
  have K32 : ∀ t, Steps p.tables e below (T30.setTop (mkF m 109 #[.val (.long qm), .second, .val (.long qw), .second, .val (.long qt), .second, .val (.long qd), .second, .val (.int fl), .val (.int c), .val (.long dl), .second, .val (.long m2), .second, .val (.int c2), .val (.long w2), .second, .val (.long t2), .second, .unset, .unset, .unset, .unset, .unset, .unset, .unset, .unset] [(.long qt), (.long qw), (.int c), (.long qm), (.ref b30), (.ref b30)])) t → Steps p.tables e below G0 t := by
    intro t kt
    refine K30 t ?_
    refine XS.dup X30.here hx rfl (hb hby at_102) rfl rfl ?_
    show Steps p.tables e below (T30.setTop (mkF m 103 #[.val (.long qm), .second, .val (.long qw), .second, .val (.long qt), .second, .val (.long qd), .second, .val (.int fl), .val (.int c), .val (.long dl), .second, .val (.long m2), .second, .val (.int c2), .val (.long w2), .second, .val (.long t2), .second, .unset, .unset, .unset, .unset, .unset, .unset, .unset, .unset] [(.ref b30), (.ref b30)])) _
    refine XS.lloadN X30.here hx rfl (hb hby at_103) rfl ?_
    show Steps p.tables e below (T30.setTop (mkF m 104 #[.val (.long qm), .second, .val (.long qw), .second, .val (.long qt), .second, .val (.long qd), .second, .val (.int fl), .val (.int c), .val (.long dl), .second, .val (.long m2), .second, .val (.int c2), .val (.long w2), .second, .val (.long t2), .second, .unset, .unset, .unset, .unset, .unset, .unset, .unset, .unset] [(.long qm), (.ref b30), (.ref b30)])) _
    refine XS.iload X30.here hx rfl (hb hby at_104) rfl ?_
    show Steps p.tables e below (T30.setTop (mkF m 106 #[.val (.long qm), .second, .val (.long qw), .second, .val (.long qt), .second, .val (.long qd), .second, .val (.int fl), .val (.int c), .val (.long dl), .second, .val (.long m2), .second, .val (.int c2), .val (.long w2), .second, .val (.long t2), .second, .unset, .unset, .unset, .unset, .unset, .unset, .unset, .unset] [(.int c), (.long qm), (.ref b30), (.ref b30)])) _
    refine XS.lloadN X30.here hx rfl (hb hby at_106) rfl ?_
    show Steps p.tables e below (T30.setTop (mkF m 107 #[.val (.long qm), .second, .val (.long qw), .second, .val (.long qt), .second, .val (.long qd), .second, .val (.int fl), .val (.int c), .val (.long dl), .second, .val (.long m2), .second, .val (.int c2), .val (.long w2), .second, .val (.long t2), .second, .unset, .unset, .unset, .unset, .unset, .unset, .unset, .unset] [(.long qw), (.int c), (.long qm), (.ref b30), (.ref b30)])) _
    refine XS.lload X30.here hx rfl (hb hby at_107) rfl ?_
    show Steps p.tables e below (T30.setTop (mkF m 109 #[.val (.long qm), .second, .val (.long qw), .second, .val (.long qt), .second, .val (.long qd), .second, .val (.int fl), .val (.int c), .val (.long dl), .second, .val (.long m2), .second, .val (.int c2), .val (.long w2), .second, .val (.long t2), .second, .unset, .unset, .unset, .unset, .unset, .unset, .unset, .unset] [(.long qt), (.long qw), (.int c), (.long qm), (.ref b30), (.ref b30)])) _
    exact kt
  obtain ⟨_, _, ⟨T33, L33, k33, n33⟩, -, X33, ⟨Lc33, hQ33, l33, y33, z33⟩, st33⟩ := X30.specialBack hx (y := (⟨"com/example/slackwise/slackwise/replay/JobOutcome", "<init>", "(JZJJ)V"⟩ : MethodName)) rfl hown (mvT hZ (hw _ (List.mem_of_getElem? (i := 3) rfl))) (mvT hZ (hw _ (List.mem_of_getElem? (i := 4) rfl))) (mvT hZ (hw _ (List.mem_of_getElem? (i := 5) rfl))) (by decide) (backOf (W := 1) (rm1 l Z aa hw [] (b30) (qm) (c) (qw) (qt) _ _ _ _ h30 n0 Z30 gn30 A30 F_milliVcores_b30 F_completed_b30 F_waitS_b30 F_completionS_b30) hZ (hw _ (List.mem_of_getElem? (i := 5) rfl)) (hw _ (List.mem_of_getElem? (i := 2) rfl)) (by decide) (by decide)) (g := (mkF m 109 #[.val (.long qm), .second, .val (.long qw), .second, .val (.long qt), .second, .val (.long qd), .second, .val (.int fl), .val (.int c), .val (.long dl), .second, .val (.long m2), .second, .val (.int c2), .val (.long w2), .second, .val (.long t2), .second, .unset, .unset, .unset, .unset, .unset, .unset, .unset, .unset] [(.long qt), (.long qw), (.int c), (.long qm), (.ref b30), (.ref b30)])) rfl (by rw [hml]; rfl) (Steps.refl _) (a := b30) (argsL := [(.long qm), (.int c), (.long qw), (.long qt)]) (rest := [(.ref b30)]) (lenOf pd_PJZJJQV rfl) rfl (by show 2 * 0 + _ ≤ _; exact Nat.le_of_eq rfl) (hb hby at_109) (fun _ _ => ⟨rfl, e30, (by decide : 1 + 0 ≤ _), (by decide : 4 + 0 ≤ _)⟩)
  dsimp only [Pt.U, Pt.locs, Pt.cells, Pt.slots] at X33 l33 y33 z33 st33 hQ33
  subst l33 y33 z33
  obtain ⟨rfl, N33q, KK31, EE31, Fc0_31, Fc1_31, Fc2_31, Fc3_31⟩ := hQ33
  have N33 := Fr.app N0 N33q
  have K33 : ∀ t, Steps p.tables e below (T33.setTop (mkF m 112 #[.val (.long qm), .second, .val (.long qw), .second, .val (.long qt), .second, .val (.long qd), .second, .val (.int fl), .val (.int c), .val (.long dl), .second, .val (.long m2), .second, .val (.int c2), .val (.long w2), .second, .val (.long t2), .second, .unset, .unset, .unset, .unset, .unset, .unset, .unset, .unset] [(.ref b30)])) t → Steps p.tables e below G0 t := fun t kt => K32 t (st33.trans kt)
  have ZZ31 : n0 ≤ T33.heap.size := Nat.le_trans Z30 KK31.1
  have K34 : ∀ t, Steps p.tables e below (T33.setTop (mkF m 114 #[.val (.long qm), .second, .val (.long qw), .second, .val (.long qt), .second, .val (.long qd), .second, .val (.int fl), .val (.int c), .val (.long dl), .second, .val (.long m2), .second, .val (.int c2), .val (.long w2), .second, .val (.long t2), .second, .val (.ref b30), .unset, .unset, .unset, .unset, .unset, .unset, .unset] [])) t → Steps p.tables e below G0 t := by
    intro t kt
    refine K33 t ?_
    refine XS.astore X33.here hx rfl (hb hby at_112) rfl rfl (l' := #[.val (.long qm), .second, .val (.long qw), .second, .val (.long qt), .second, .val (.long qd), .second, .val (.int fl), .val (.int c), .val (.long dl), .second, .val (.long m2), .second, .val (.int c2), .val (.long w2), .second, .val (.long t2), .second, .val (.ref b30), .unset, .unset, .unset, .unset, .unset, .unset, .unset]) rfl ?_
    show Steps p.tables e below (T33.setTop (mkF m 114 #[.val (.long qm), .second, .val (.long qw), .second, .val (.long qt), .second, .val (.long qd), .second, .val (.int fl), .val (.int c), .val (.long dl), .second, .val (.long m2), .second, .val (.int c2), .val (.long w2), .second, .val (.long t2), .second, .val (.ref b30), .unset, .unset, .unset, .unset, .unset, .unset, .unset] [])) _
    exact kt
  obtain ⟨T35, h35, X35, e35, E35, A35, D35, -, st35⟩ := newO X33 hx hZ hown (hw _ (List.mem_of_getElem? (i := 0) rfl)) (hw _ (List.mem_of_getElem? (i := 1) rfl)) (hw _ (List.mem_of_getElem? (i := 2) rfl)) (rfl : T33.heap = _) (g := (mkF m 114 #[.val (.long qm), .second, .val (.long qw), .second, .val (.long qt), .second, .val (.long qd), .second, .val (.int fl), .val (.int c), .val (.long dl), .second, .val (.long m2), .second, .val (.int c2), .val (.long w2), .second, .val (.long t2), .second, .val (.ref b30), .unset, .unset, .unset, .unset, .unset, .unset, .unset] [])) rfl (hb hby at_114) (by decide) (by decide)
  obtain ⟨b35, g35⟩ : ∃ z, z = T33.heap.size := ⟨_, rfl⟩
  rw [← g35] at A35 D35 st35
  have gn35 : n0 ≤ b35 := Nat.le_trans ZZ31 (Nat.le_of_eq g35.symm)
  have Z35 : n0 ≤ h35.size := Nat.le_trans ZZ31 E35.1
  have K35 : ∀ t, Steps p.tables e below (T35.setTop (mkF m 117 #[.val (.long qm), .second, .val (.long qw), .second, .val (.long qt), .second, .val (.long qd), .second, .val (.int fl), .val (.int c), .val (.long dl), .second, .val (.long m2), .second, .val (.int c2), .val (.long w2), .second, .val (.long t2), .second, .val (.ref b30), .unset, .unset, .unset, .unset, .unset, .unset, .unset] [(.ref b35)])) t → Steps p.tables e below G0 t := fun t kt => K34 t (st35 _ kt)
  have ne_b30_b35 : b30 ≠ b35 := Nat.ne_of_lt (Nat.lt_of_lt_of_le (EE31).lt (Nat.le_of_eq g35.symm))
  have F_milliVcores_b35 := (D35 (Or.inr (hw _ (List.mem_of_getElem? (i := 10) rfl))) (ty := .long) (by decide) : Fld Z h35 b35 "com/example/slackwise/slackwise/replay/JobOutcome" "milliVcores" "J" (.long (0 : Int64)))
  have F_completed_b35 := (D35 (Or.inr (hw _ (List.mem_of_getElem? (i := 12) rfl))) (ty := .boolean) (by decide) : Fld Z h35 b35 "com/example/slackwise/slackwise/replay/JobOutcome" "completed" "Z" (.int (0 : Int32)))
  have F_waitS_b35 := (D35 (Or.inr (hw _ (List.mem_of_getElem? (i := 14) rfl))) (ty := .long) (by decide) : Fld Z h35 b35 "com/example/slackwise/slackwise/replay/JobOutcome" "waitS" "J" (.long (0 : Int64)))
  have F_completionS_b35 := (D35 (Or.inr (hw _ (List.mem_of_getElem? (i := 16) rfl))) (ty := .long) (by decide) : Fld Z h35 b35 "com/example/slackwise/slackwise/replay/JobOutcome" "completionS" "J" (.long (0 : Int64)))
  have K37 : ∀ t, Steps p.tables e below (T35.setTop (mkF m 126 #[.val (.long qm), .second, .val (.long qw), .second, .val (.long qt), .second, .val (.long qd), .second, .val (.int fl), .val (.int c), .val (.long dl), .second, .val (.long m2), .second, .val (.int c2), .val (.long w2), .second, .val (.long t2), .second, .val (.ref b30), .unset, .unset, .unset, .unset, .unset, .unset, .unset] [(.long t2), (.long w2), (.int c2), (.long m2), (.ref b35), (.ref b35)])) t → Steps p.tables e below G0 t := by
    intro t kt
    refine K35 t ?_
    refine XS.dup X35.here hx rfl (hb hby at_117) rfl rfl ?_
    show Steps p.tables e below (T35.setTop (mkF m 118 #[.val (.long qm), .second, .val (.long qw), .second, .val (.long qt), .second, .val (.long qd), .second, .val (.int fl), .val (.int c), .val (.long dl), .second, .val (.long m2), .second, .val (.int c2), .val (.long w2), .second, .val (.long t2), .second, .val (.ref b30), .unset, .unset, .unset, .unset, .unset, .unset, .unset] [(.ref b35), (.ref b35)])) _
    refine XS.lload X35.here hx rfl (hb hby at_118) rfl ?_
    show Steps p.tables e below (T35.setTop (mkF m 120 #[.val (.long qm), .second, .val (.long qw), .second, .val (.long qt), .second, .val (.long qd), .second, .val (.int fl), .val (.int c), .val (.long dl), .second, .val (.long m2), .second, .val (.int c2), .val (.long w2), .second, .val (.long t2), .second, .val (.ref b30), .unset, .unset, .unset, .unset, .unset, .unset, .unset] [(.long m2), (.ref b35), (.ref b35)])) _
    refine XS.iload X35.here hx rfl (hb hby at_120) rfl ?_
    show Steps p.tables e below (T35.setTop (mkF m 122 #[.val (.long qm), .second, .val (.long qw), .second, .val (.long qt), .second, .val (.long qd), .second, .val (.int fl), .val (.int c), .val (.long dl), .second, .val (.long m2), .second, .val (.int c2), .val (.long w2), .second, .val (.long t2), .second, .val (.ref b30), .unset, .unset, .unset, .unset, .unset, .unset, .unset] [(.int c2), (.long m2), (.ref b35), (.ref b35)])) _
    refine XS.lload X35.here hx rfl (hb hby at_122) rfl ?_
    show Steps p.tables e below (T35.setTop (mkF m 124 #[.val (.long qm), .second, .val (.long qw), .second, .val (.long qt), .second, .val (.long qd), .second, .val (.int fl), .val (.int c), .val (.long dl), .second, .val (.long m2), .second, .val (.int c2), .val (.long w2), .second, .val (.long t2), .second, .val (.ref b30), .unset, .unset, .unset, .unset, .unset, .unset, .unset] [(.long w2), (.int c2), (.long m2), (.ref b35), (.ref b35)])) _
    refine XS.lload X35.here hx rfl (hb hby at_124) rfl ?_
    show Steps p.tables e below (T35.setTop (mkF m 126 #[.val (.long qm), .second, .val (.long qw), .second, .val (.long qt), .second, .val (.long qd), .second, .val (.int fl), .val (.int c), .val (.long dl), .second, .val (.long m2), .second, .val (.int c2), .val (.long w2), .second, .val (.long t2), .second, .val (.ref b30), .unset, .unset, .unset, .unset, .unset, .unset, .unset] [(.long t2), (.long w2), (.int c2), (.long m2), (.ref b35), (.ref b35)])) _
    exact kt
  obtain ⟨_, _, ⟨T38, L38, k38, n38⟩, -, X38, ⟨Lc38, hQ38, l38, y38, z38⟩, st38⟩ := X35.specialBack hx (y := (⟨"com/example/slackwise/slackwise/replay/JobOutcome", "<init>", "(JZJJ)V"⟩ : MethodName)) rfl hown (mvT hZ (hw _ (List.mem_of_getElem? (i := 3) rfl))) (mvT hZ (hw _ (List.mem_of_getElem? (i := 4) rfl))) (mvT hZ (hw _ (List.mem_of_getElem? (i := 5) rfl))) (by decide) (backOf (W := 1) (rm1 l Z aa hw [] (b35) (m2) (c2) (w2) (t2) _ _ _ _ h35 n0 Z35 gn35 A35 F_milliVcores_b35 F_completed_b35 F_waitS_b35 F_completionS_b35) hZ (hw _ (List.mem_of_getElem? (i := 5) rfl)) (hw _ (List.mem_of_getElem? (i := 2) rfl)) (by decide) (by decide)) (g := (mkF m 126 #[.val (.long qm), .second, .val (.long qw), .second, .val (.long qt), .second, .val (.long qd), .second, .val (.int fl), .val (.int c), .val (.long dl), .second, .val (.long m2), .second, .val (.int c2), .val (.long w2), .second, .val (.long t2), .second, .val (.ref b30), .unset, .unset, .unset, .unset, .unset, .unset, .unset] [(.long t2), (.long w2), (.int c2), (.long m2), (.ref b35), (.ref b35)])) rfl (by rw [hml]; rfl) (Steps.refl _) (a := b35) (argsL := [(.long m2), (.int c2), (.long w2), (.long t2)]) (rest := [(.ref b35)]) (lenOf pd_PJZJJQV rfl) rfl (by show 2 * 0 + _ ≤ _; exact Nat.le_of_eq rfl) (hb hby at_126) (fun _ _ => ⟨rfl, e35, (by decide : 2 + 0 ≤ _), (by decide : 8 + 0 ≤ _)⟩)
  dsimp only [Pt.U, Pt.locs, Pt.cells, Pt.slots] at X38 l38 y38 z38 st38 hQ38
  subst l38 y38 z38
  obtain ⟨rfl, N38q, KK36, EE36, Fc0_36, Fc1_36, Fc2_36, Fc3_36⟩ := hQ38
  have N38 := Fr.app N33 N38q
  have K38 : ∀ t, Steps p.tables e below (T38.setTop (mkF m 129 #[.val (.long qm), .second, .val (.long qw), .second, .val (.long qt), .second, .val (.long qd), .second, .val (.int fl), .val (.int c), .val (.long dl), .second, .val (.long m2), .second, .val (.int c2), .val (.long w2), .second, .val (.long t2), .second, .val (.ref b30), .unset, .unset, .unset, .unset, .unset, .unset, .unset] [(.ref b35)])) t → Steps p.tables e below G0 t := fun t kt => K37 t (st38.trans kt)
  have ZZ36 : n0 ≤ T38.heap.size := Nat.le_trans Z35 KK36.1
  have K39 : ∀ t, Steps p.tables e below (T38.setTop (mkF m 136 #[.val (.long qm), .second, .val (.long qw), .second, .val (.long qt), .second, .val (.long qd), .second, .val (.int fl), .val (.int c), .val (.long dl), .second, .val (.long m2), .second, .val (.int c2), .val (.long w2), .second, .val (.long t2), .second, .val (.ref b30), .val (.ref b35), .unset, .unset, .unset, .unset, .unset, .unset] [(.int (fl &&& (30 : Int32)))])) t → Steps p.tables e below G0 t := by
    intro t kt
    refine K38 t ?_
    refine XS.astore X38.here hx rfl (hb hby at_129) rfl rfl (l' := #[.val (.long qm), .second, .val (.long qw), .second, .val (.long qt), .second, .val (.long qd), .second, .val (.int fl), .val (.int c), .val (.long dl), .second, .val (.long m2), .second, .val (.int c2), .val (.long w2), .second, .val (.long t2), .second, .val (.ref b30), .val (.ref b35), .unset, .unset, .unset, .unset, .unset, .unset]) rfl ?_
    show Steps p.tables e below (T38.setTop (mkF m 131 #[.val (.long qm), .second, .val (.long qw), .second, .val (.long qt), .second, .val (.long qd), .second, .val (.int fl), .val (.int c), .val (.long dl), .second, .val (.long m2), .second, .val (.int c2), .val (.long w2), .second, .val (.long t2), .second, .val (.ref b30), .val (.ref b35), .unset, .unset, .unset, .unset, .unset, .unset] [])) _
    refine XS.iload X38.here hx rfl (hb hby at_131) rfl ?_
    show Steps p.tables e below (T38.setTop (mkF m 133 #[.val (.long qm), .second, .val (.long qw), .second, .val (.long qt), .second, .val (.long qd), .second, .val (.int fl), .val (.int c), .val (.long dl), .second, .val (.long m2), .second, .val (.int c2), .val (.long w2), .second, .val (.long t2), .second, .val (.ref b30), .val (.ref b35), .unset, .unset, .unset, .unset, .unset, .unset] [(.int fl)])) _
    refine XS.bipush X38.here hx rfl (hb hby at_133) ?_
    show Steps p.tables e below (T38.setTop (mkF m 135 #[.val (.long qm), .second, .val (.long qw), .second, .val (.long qt), .second, .val (.long qd), .second, .val (.int fl), .val (.int c), .val (.long dl), .second, .val (.long m2), .second, .val (.int c2), .val (.long w2), .second, .val (.long t2), .second, .val (.ref b30), .val (.ref b35), .unset, .unset, .unset, .unset, .unset, .unset] [(.int (30 : Int32)), (.int fl)])) _
    refine XS.iand X38.here hx rfl (hb hby at_135) rfl ?_
    show Steps p.tables e below (T38.setTop (mkF m 136 #[.val (.long qm), .second, .val (.long qw), .second, .val (.long qt), .second, .val (.long qd), .second, .val (.int fl), .val (.int c), .val (.long dl), .second, .val (.long m2), .second, .val (.int c2), .val (.long w2), .second, .val (.long t2), .second, .val (.ref b30), .val (.ref b35), .unset, .unset, .unset, .unset, .unset, .unset] [(.int (fl &&& (30 : Int32)))])) _
    exact kt
  have K40 : ∀ t, Steps p.tables e below (T38.setTop (mkF m 146 #[.val (.long qm), .second, .val (.long qw), .second, .val (.long qt), .second, .val (.long qd), .second, .val (.int fl), .val (.int c), .val (.long dl), .second, .val (.long m2), .second, .val (.int c2), .val (.long w2), .second, .val (.long t2), .second, .val (.ref b30), .val (.ref b35), .val (.int (own_x fl)), .unset, .unset, .unset, .unset, .unset] [])) t → Steps p.tables e below G0 t := by
    by_cases hc41 : (fl &&& (30 : Int32)) = (0 : Int32)
    ·
      have K42 : ∀ t, Steps p.tables e below (T38.setTop (mkF m 146 #[.val (.long qm), .second, .val (.long qw), .second, .val (.long qt), .second, .val (.long qd), .second, .val (.int fl), .val (.int c), .val (.long dl), .second, .val (.long m2), .second, .val (.int c2), .val (.long w2), .second, .val (.long t2), .second, .val (.ref b30), .val (.ref b35), .val (.int (1 : Int32)), .unset, .unset, .unset, .unset, .unset] [])) t → Steps p.tables e below G0 t := by
        intro t kt
        refine K39 t ?_
        refine XS.ifNo X38.here hx rfl (hb hby at_136) rfl ((if0 _ _).trans (teq hc41).2) ?_
        show Steps p.tables e below (T38.setTop (mkF m 139 #[.val (.long qm), .second, .val (.long qw), .second, .val (.long qt), .second, .val (.long qd), .second, .val (.int fl), .val (.int c), .val (.long dl), .second, .val (.long m2), .second, .val (.int c2), .val (.long w2), .second, .val (.long t2), .second, .val (.ref b30), .val (.ref b35), .unset, .unset, .unset, .unset, .unset, .unset] [])) _
        refine XS.iconst X38.here hx rfl (hb hby at_139) ?_
        show Steps p.tables e below (T38.setTop (mkF m 140 #[.val (.long qm), .second, .val (.long qw), .second, .val (.long qt), .second, .val (.long qd), .second, .val (.int fl), .val (.int c), .val (.long dl), .second, .val (.long m2), .second, .val (.int c2), .val (.long w2), .second, .val (.long t2), .second, .val (.ref b30), .val (.ref b35), .unset, .unset, .unset, .unset, .unset, .unset] [(.int (1 : Int32))])) _
        refine XS.goto X38.here hx rfl (pc0 := 140) (pc' := 144) rfl (hb hby at_140) (by decide) (by decide) ?_
        show Steps p.tables e below (T38.setTop (mkF m 144 #[.val (.long qm), .second, .val (.long qw), .second, .val (.long qt), .second, .val (.long qd), .second, .val (.int fl), .val (.int c), .val (.long dl), .second, .val (.long m2), .second, .val (.int c2), .val (.long w2), .second, .val (.long t2), .second, .val (.ref b30), .val (.ref b35), .unset, .unset, .unset, .unset, .unset, .unset] [(.int (1 : Int32))])) _
        refine XS.istore X38.here hx rfl (hb hby at_144) rfl (l' := #[.val (.long qm), .second, .val (.long qw), .second, .val (.long qt), .second, .val (.long qd), .second, .val (.int fl), .val (.int c), .val (.long dl), .second, .val (.long m2), .second, .val (.int c2), .val (.long w2), .second, .val (.long t2), .second, .val (.ref b30), .val (.ref b35), .val (.int (1 : Int32)), .unset, .unset, .unset, .unset, .unset]) rfl ?_
        show Steps p.tables e below (T38.setTop (mkF m 146 #[.val (.long qm), .second, .val (.long qw), .second, .val (.long qt), .second, .val (.long qd), .second, .val (.int fl), .val (.int c), .val (.long dl), .second, .val (.long m2), .second, .val (.int c2), .val (.long w2), .second, .val (.long t2), .second, .val (.ref b30), .val (.ref b35), .val (.int (1 : Int32)), .unset, .unset, .unset, .unset, .unset] [])) _
        exact kt
      have hq : (own_x fl) = (1 : Int32) := by rw [own_x, if_pos hc41]
      rw [hq]
      exact K42
    ·
      have K43 : ∀ t, Steps p.tables e below (T38.setTop (mkF m 146 #[.val (.long qm), .second, .val (.long qw), .second, .val (.long qt), .second, .val (.long qd), .second, .val (.int fl), .val (.int c), .val (.long dl), .second, .val (.long m2), .second, .val (.int c2), .val (.long w2), .second, .val (.long t2), .second, .val (.ref b30), .val (.ref b35), .val (.int (0 : Int32)), .unset, .unset, .unset, .unset, .unset] [])) t → Steps p.tables e below G0 t := by
        intro t kt
        refine K39 t ?_
        refine XS.ifYes X38.here hx rfl (pc0 := 136) (pc' := 143) rfl (hb hby at_136) rfl ((if0 _ _).trans (feq hc41).2) (by decide) (by decide) ?_
        show Steps p.tables e below (T38.setTop (mkF m 143 #[.val (.long qm), .second, .val (.long qw), .second, .val (.long qt), .second, .val (.long qd), .second, .val (.int fl), .val (.int c), .val (.long dl), .second, .val (.long m2), .second, .val (.int c2), .val (.long w2), .second, .val (.long t2), .second, .val (.ref b30), .val (.ref b35), .unset, .unset, .unset, .unset, .unset, .unset] [])) _
        refine XS.iconst X38.here hx rfl (hb hby at_143) ?_
        show Steps p.tables e below (T38.setTop (mkF m 144 #[.val (.long qm), .second, .val (.long qw), .second, .val (.long qt), .second, .val (.long qd), .second, .val (.int fl), .val (.int c), .val (.long dl), .second, .val (.long m2), .second, .val (.int c2), .val (.long w2), .second, .val (.long t2), .second, .val (.ref b30), .val (.ref b35), .unset, .unset, .unset, .unset, .unset, .unset] [(.int (0 : Int32))])) _
        refine XS.istore X38.here hx rfl (hb hby at_144) rfl (l' := #[.val (.long qm), .second, .val (.long qw), .second, .val (.long qt), .second, .val (.long qd), .second, .val (.int fl), .val (.int c), .val (.long dl), .second, .val (.long m2), .second, .val (.int c2), .val (.long w2), .second, .val (.long t2), .second, .val (.ref b30), .val (.ref b35), .val (.int (0 : Int32)), .unset, .unset, .unset, .unset, .unset]) rfl ?_
        show Steps p.tables e below (T38.setTop (mkF m 146 #[.val (.long qm), .second, .val (.long qw), .second, .val (.long qt), .second, .val (.long qd), .second, .val (.int fl), .val (.int c), .val (.long dl), .second, .val (.long m2), .second, .val (.int c2), .val (.long w2), .second, .val (.long t2), .second, .val (.ref b30), .val (.ref b35), .val (.int (0 : Int32)), .unset, .unset, .unset, .unset, .unset] [])) _
        exact kt
      have hq : (own_x fl) = (0 : Int32) := by rw [own_x, if_neg hc41]
      rw [hq]
      exact K43
  have f44 := ((Fc0_31.ext E35).keep KK36 (fun q => ne_b30_b35 (List.mem_singleton.mp q)))
  have f45 := ((Fc1_31.ext E35).keep KK36 (fun q => ne_b30_b35 (List.mem_singleton.mp q)))
  have f46 := ((Fc2_31.ext E35).keep KK36 (fun q => ne_b30_b35 (List.mem_singleton.mp q)))
  have f47 := ((Fc3_31.ext E35).keep KK36 (fun q => ne_b30_b35 (List.mem_singleton.mp q)))
  have f48 := ((EE31.ext E35).keep KK36)
  have K49 : ∀ t, Steps p.tables e below (T38.setTop (mkF m 150 #[.val (.long qm), .second, .val (.long qw), .second, .val (.long qt), .second, .val (.long qd), .second, .val (.int fl), .val (.int c), .val (.long dl), .second, .val (.long m2), .second, .val (.int c2), .val (.long w2), .second, .val (.long t2), .second, .val (.ref b30), .val (.ref b35), .val (.int (own_x fl)), .unset, .unset, .unset, .unset, .unset] [(.ref b35), (.ref b30)])) t → Steps p.tables e below G0 t := by
    intro t kt
    refine K40 t ?_
    refine XS.aload X38.here hx rfl (hb hby at_146) rfl rfl ?_
    show Steps p.tables e below (T38.setTop (mkF m 148 #[.val (.long qm), .second, .val (.long qw), .second, .val (.long qt), .second, .val (.long qd), .second, .val (.int fl), .val (.int c), .val (.long dl), .second, .val (.long m2), .second, .val (.int c2), .val (.long w2), .second, .val (.long t2), .second, .val (.ref b30), .val (.ref b35), .val (.int (own_x fl)), .unset, .unset, .unset, .unset, .unset] [(.ref b30)])) _
    refine XS.aload X38.here hx rfl (hb hby at_148) rfl rfl ?_
    show Steps p.tables e below (T38.setTop (mkF m 150 #[.val (.long qm), .second, .val (.long qw), .second, .val (.long qt), .second, .val (.long qd), .second, .val (.int fl), .val (.int c), .val (.long dl), .second, .val (.long m2), .second, .val (.int c2), .val (.long w2), .second, .val (.long t2), .second, .val (.ref b30), .val (.ref b35), .val (.int (own_x fl)), .unset, .unset, .unset, .unset, .unset] [(.ref b35), (.ref b30)])) _
    exact kt
  obtain ⟨cq50, kq50, q50a, q50b, q50c⟩ := isOf hZ (rfl : T38.heap = _) f48
  obtain ⟨_, _, ⟨T51, L51, k51, n51⟩, -, X51, ⟨Lc51, hQ51, l51, y51, z51⟩, st51⟩ := X38.virtualBack hx (y := (⟨"com/example/slackwise/slackwise/replay/JobOutcome", "equals", "(Ljava/lang/Object;)Z"⟩ : MethodName)) (z := (⟨"com/example/slackwise/slackwise/replay/JobOutcome", "equals", "(Ljava/lang/Object;)Z"⟩ : MethodName)) hown (mvT hZ (hw _ (List.mem_of_getElem? (i := 17) rfl))) (mvT hZ (hw _ (List.mem_of_getElem? (i := 18) rfl))) (notFace_of_selects (args := #[]) (mvT hZ (hw _ (List.mem_of_getElem? (i := 20) rfl)))) (mvT hZ (hw _ (List.mem_of_getElem? (i := 20) rfl))) (mvT hZ (hw _ (List.mem_of_getElem? (i := 19) rfl))) (by decide) (backOf (W := 0) (rm3 l Z aa hw [] (b30) (b35) qm (nar .boolean c) qw qt m2 (nar .boolean c2) w2 t2 T38.heap n0 ZZ36 f44 f45 f46 f47 Fc0_36 Fc1_36 Fc2_36 Fc3_36 EE36) hZ (hw _ (List.mem_of_getElem? (i := 21) rfl)) (hw _ (List.mem_of_getElem? (i := 2) rfl)) (by decide) (by decide)) q50a q50c (g := (mkF m 150 #[.val (.long qm), .second, .val (.long qw), .second, .val (.long qt), .second, .val (.long qd), .second, .val (.int fl), .val (.int c), .val (.long dl), .second, .val (.long m2), .second, .val (.int c2), .val (.long w2), .second, .val (.long t2), .second, .val (.ref b30), .val (.ref b35), .val (.int (own_x fl)), .unset, .unset, .unset, .unset, .unset] [(.ref b35), (.ref b30)])) rfl (by rw [hml]; rfl) (Steps.refl _) (argsL := [(.ref b35)]) (rest := []) (lenOf pd_PLjava_lang_Object_QZ rfl) rfl (by show 2 * 0 + _ ≤ _; exact Nat.le_of_eq rfl) (hb hby at_150) (fun _ _ => ⟨rfl, (rfl : T38.heap = _), (by decide : 2 + 0 ≤ _), (by decide : 8 + 0 ≤ _)⟩)
  dsimp only [Pt.U, Pt.locs, Pt.cells, Pt.slots] at X51 l51 y51 z51 st51 hQ51
  subst l51 y51 z51
  obtain ⟨rfl, N51q, e51⟩ := hQ51
  have N51 := Fr.app N38 N51q
  have K51 : ∀ t, Steps p.tables e below (T51.setTop (mkF m 153 #[.val (.long qm), .second, .val (.long qw), .second, .val (.long qt), .second, .val (.long qd), .second, .val (.int fl), .val (.int c), .val (.long dl), .second, .val (.long m2), .second, .val (.int c2), .val (.long w2), .second, .val (.long t2), .second, .val (.ref b30), .val (.ref b35), .val (.int (own_x fl)), .unset, .unset, .unset, .unset, .unset] [(.int (own_e qm m2 (nar .boolean c) (nar .boolean c2) qw w2 qt t2))])) t → Steps p.tables e below G0 t := fun t kt => K49 t (st51.trans kt)
  have K52 : ∀ t, Steps p.tables e below (T51.setTop (mkF m 159 #[.val (.long qm), .second, .val (.long qw), .second, .val (.long qt), .second, .val (.long qd), .second, .val (.int fl), .val (.int c), .val (.long dl), .second, .val (.long m2), .second, .val (.int c2), .val (.long w2), .second, .val (.long t2), .second, .val (.ref b30), .val (.ref b35), .val (.int (own_x fl)), .val (.int (own_e qm m2 (nar .boolean c) (nar .boolean c2) qw w2 qt t2)), .unset, .unset, .unset, .unset] [(.ref b30), (.ref b35)])) t → Steps p.tables e below G0 t := by
    intro t kt
    refine K51 t ?_
    refine XS.istore X51.here hx rfl (hb hby at_153) rfl (l' := #[.val (.long qm), .second, .val (.long qw), .second, .val (.long qt), .second, .val (.long qd), .second, .val (.int fl), .val (.int c), .val (.long dl), .second, .val (.long m2), .second, .val (.int c2), .val (.long w2), .second, .val (.long t2), .second, .val (.ref b30), .val (.ref b35), .val (.int (own_x fl)), .val (.int (own_e qm m2 (nar .boolean c) (nar .boolean c2) qw w2 qt t2)), .unset, .unset, .unset, .unset]) rfl ?_
    show Steps p.tables e below (T51.setTop (mkF m 155 #[.val (.long qm), .second, .val (.long qw), .second, .val (.long qt), .second, .val (.long qd), .second, .val (.int fl), .val (.int c), .val (.long dl), .second, .val (.long m2), .second, .val (.int c2), .val (.long w2), .second, .val (.long t2), .second, .val (.ref b30), .val (.ref b35), .val (.int (own_x fl)), .val (.int (own_e qm m2 (nar .boolean c) (nar .boolean c2) qw w2 qt t2)), .unset, .unset, .unset, .unset] [])) _
    refine XS.aload X51.here hx rfl (hb hby at_155) rfl rfl ?_
    show Steps p.tables e below (T51.setTop (mkF m 157 #[.val (.long qm), .second, .val (.long qw), .second, .val (.long qt), .second, .val (.long qd), .second, .val (.int fl), .val (.int c), .val (.long dl), .second, .val (.long m2), .second, .val (.int c2), .val (.long w2), .second, .val (.long t2), .second, .val (.ref b30), .val (.ref b35), .val (.int (own_x fl)), .val (.int (own_e qm m2 (nar .boolean c) (nar .boolean c2) qw w2 qt t2)), .unset, .unset, .unset, .unset] [(.ref b35)])) _
    refine XS.aload X51.here hx rfl (hb hby at_157) rfl rfl ?_
    show Steps p.tables e below (T51.setTop (mkF m 159 #[.val (.long qm), .second, .val (.long qw), .second, .val (.long qt), .second, .val (.long qd), .second, .val (.int fl), .val (.int c), .val (.long dl), .second, .val (.long m2), .second, .val (.int c2), .val (.long w2), .second, .val (.long t2), .second, .val (.ref b30), .val (.ref b35), .val (.int (own_x fl)), .val (.int (own_e qm m2 (nar .boolean c) (nar .boolean c2) qw w2 qt t2)), .unset, .unset, .unset, .unset] [(.ref b30), (.ref b35)])) _
    exact kt
  obtain ⟨cq53, kq53, q53a, q53b, q53c⟩ := isOf hZ e51 EE36
  obtain ⟨_, _, ⟨T54, L54, k54, n54⟩, -, X54, ⟨Lc54, hQ54, l54, y54, z54⟩, st54⟩ := X51.virtualBack hx (y := (⟨"com/example/slackwise/slackwise/replay/JobOutcome", "equals", "(Ljava/lang/Object;)Z"⟩ : MethodName)) (z := (⟨"com/example/slackwise/slackwise/replay/JobOutcome", "equals", "(Ljava/lang/Object;)Z"⟩ : MethodName)) hown (mvT hZ (hw _ (List.mem_of_getElem? (i := 17) rfl))) (mvT hZ (hw _ (List.mem_of_getElem? (i := 18) rfl))) (notFace_of_selects (args := #[]) (mvT hZ (hw _ (List.mem_of_getElem? (i := 20) rfl)))) (mvT hZ (hw _ (List.mem_of_getElem? (i := 20) rfl))) (mvT hZ (hw _ (List.mem_of_getElem? (i := 19) rfl))) (by decide) (backOf (W := 0) (rm3 l Z aa hw [] (b35) (b30) m2 (nar .boolean c2) w2 t2 qm (nar .boolean c) qw qt T38.heap n0 ZZ36 Fc0_36 Fc1_36 Fc2_36 Fc3_36 f44 f45 f46 f47 f48) hZ (hw _ (List.mem_of_getElem? (i := 21) rfl)) (hw _ (List.mem_of_getElem? (i := 2) rfl)) (by decide) (by decide)) q53a q53c (g := (mkF m 159 #[.val (.long qm), .second, .val (.long qw), .second, .val (.long qt), .second, .val (.long qd), .second, .val (.int fl), .val (.int c), .val (.long dl), .second, .val (.long m2), .second, .val (.int c2), .val (.long w2), .second, .val (.long t2), .second, .val (.ref b30), .val (.ref b35), .val (.int (own_x fl)), .val (.int (own_e qm m2 (nar .boolean c) (nar .boolean c2) qw w2 qt t2)), .unset, .unset, .unset, .unset] [(.ref b30), (.ref b35)])) rfl (by rw [hml]; rfl) (Steps.refl _) (argsL := [(.ref b30)]) (rest := []) (lenOf pd_PLjava_lang_Object_QZ rfl) rfl (by show 2 * 0 + _ ≤ _; exact Nat.le_of_eq rfl) (hb hby at_159) (fun _ _ => ⟨rfl, e51, (by decide : 2 + 0 ≤ _), (by decide : 8 + 0 ≤ _)⟩)
  dsimp only [Pt.U, Pt.locs, Pt.cells, Pt.slots] at X54 l54 y54 z54 st54 hQ54
  subst l54 y54 z54
  obtain ⟨rfl, N54q, e54⟩ := hQ54
  have N54 := Fr.app N51 N54q
  have K54 : ∀ t, Steps p.tables e below (T54.setTop (mkF m 162 #[.val (.long qm), .second, .val (.long qw), .second, .val (.long qt), .second, .val (.long qd), .second, .val (.int fl), .val (.int c), .val (.long dl), .second, .val (.long m2), .second, .val (.int c2), .val (.long w2), .second, .val (.long t2), .second, .val (.ref b30), .val (.ref b35), .val (.int (own_x fl)), .val (.int (own_e qm m2 (nar .boolean c) (nar .boolean c2) qw w2 qt t2)), .unset, .unset, .unset, .unset] [(.int (own_e m2 qm (nar .boolean c2) (nar .boolean c) w2 qw t2 qt))])) t → Steps p.tables e below G0 t := fun t kt => K52 t (st54.trans kt)
  have K55 : ∀ t, Steps p.tables e below (T54.setTop (mkF m 168 #[.val (.long qm), .second, .val (.long qw), .second, .val (.long qt), .second, .val (.long qd), .second, .val (.int fl), .val (.int c), .val (.long dl), .second, .val (.long m2), .second, .val (.int c2), .val (.long w2), .second, .val (.long t2), .second, .val (.ref b30), .val (.ref b35), .val (.int (own_x fl)), .val (.int (own_e qm m2 (nar .boolean c) (nar .boolean c2) qw w2 qt t2)), .val (.int (own_e m2 qm (nar .boolean c2) (nar .boolean c) w2 qw t2 qt)), .unset, .unset, .unset] [(.ref b30), (.ref b30)])) t → Steps p.tables e below G0 t := by
    intro t kt
    refine K54 t ?_
    refine XS.istore X54.here hx rfl (hb hby at_162) rfl (l' := #[.val (.long qm), .second, .val (.long qw), .second, .val (.long qt), .second, .val (.long qd), .second, .val (.int fl), .val (.int c), .val (.long dl), .second, .val (.long m2), .second, .val (.int c2), .val (.long w2), .second, .val (.long t2), .second, .val (.ref b30), .val (.ref b35), .val (.int (own_x fl)), .val (.int (own_e qm m2 (nar .boolean c) (nar .boolean c2) qw w2 qt t2)), .val (.int (own_e m2 qm (nar .boolean c2) (nar .boolean c) w2 qw t2 qt)), .unset, .unset, .unset]) rfl ?_
    show Steps p.tables e below (T54.setTop (mkF m 164 #[.val (.long qm), .second, .val (.long qw), .second, .val (.long qt), .second, .val (.long qd), .second, .val (.int fl), .val (.int c), .val (.long dl), .second, .val (.long m2), .second, .val (.int c2), .val (.long w2), .second, .val (.long t2), .second, .val (.ref b30), .val (.ref b35), .val (.int (own_x fl)), .val (.int (own_e qm m2 (nar .boolean c) (nar .boolean c2) qw w2 qt t2)), .val (.int (own_e m2 qm (nar .boolean c2) (nar .boolean c) w2 qw t2 qt)), .unset, .unset, .unset] [])) _
    refine XS.aload X54.here hx rfl (hb hby at_164) rfl rfl ?_
    show Steps p.tables e below (T54.setTop (mkF m 166 #[.val (.long qm), .second, .val (.long qw), .second, .val (.long qt), .second, .val (.long qd), .second, .val (.int fl), .val (.int c), .val (.long dl), .second, .val (.long m2), .second, .val (.int c2), .val (.long w2), .second, .val (.long t2), .second, .val (.ref b30), .val (.ref b35), .val (.int (own_x fl)), .val (.int (own_e qm m2 (nar .boolean c) (nar .boolean c2) qw w2 qt t2)), .val (.int (own_e m2 qm (nar .boolean c2) (nar .boolean c) w2 qw t2 qt)), .unset, .unset, .unset] [(.ref b30)])) _
    refine XS.aload X54.here hx rfl (hb hby at_166) rfl rfl ?_
    show Steps p.tables e below (T54.setTop (mkF m 168 #[.val (.long qm), .second, .val (.long qw), .second, .val (.long qt), .second, .val (.long qd), .second, .val (.int fl), .val (.int c), .val (.long dl), .second, .val (.long m2), .second, .val (.int c2), .val (.long w2), .second, .val (.long t2), .second, .val (.ref b30), .val (.ref b35), .val (.int (own_x fl)), .val (.int (own_e qm m2 (nar .boolean c) (nar .boolean c2) qw w2 qt t2)), .val (.int (own_e m2 qm (nar .boolean c2) (nar .boolean c) w2 qw t2 qt)), .unset, .unset, .unset] [(.ref b30), (.ref b30)])) _
    exact kt
  obtain ⟨cq56, kq56, q56a, q56b, q56c⟩ := isOf hZ e54 f48
  obtain ⟨_, _, ⟨T57, L57, k57, n57⟩, -, X57, ⟨Lc57, hQ57, l57, y57, z57⟩, st57⟩ := X54.virtualBack hx (y := (⟨"com/example/slackwise/slackwise/replay/JobOutcome", "equals", "(Ljava/lang/Object;)Z"⟩ : MethodName)) (z := (⟨"com/example/slackwise/slackwise/replay/JobOutcome", "equals", "(Ljava/lang/Object;)Z"⟩ : MethodName)) hown (mvT hZ (hw _ (List.mem_of_getElem? (i := 17) rfl))) (mvT hZ (hw _ (List.mem_of_getElem? (i := 18) rfl))) (notFace_of_selects (args := #[]) (mvT hZ (hw _ (List.mem_of_getElem? (i := 20) rfl)))) (mvT hZ (hw _ (List.mem_of_getElem? (i := 20) rfl))) (mvT hZ (hw _ (List.mem_of_getElem? (i := 19) rfl))) (by decide) (backOf (W := 0) (rm3 l Z aa hw [] (b30) (b30) qm (nar .boolean c) qw qt qm (nar .boolean c) qw qt T38.heap n0 ZZ36 f44 f45 f46 f47 f44 f45 f46 f47 f48) hZ (hw _ (List.mem_of_getElem? (i := 21) rfl)) (hw _ (List.mem_of_getElem? (i := 2) rfl)) (by decide) (by decide)) q56a q56c (g := (mkF m 168 #[.val (.long qm), .second, .val (.long qw), .second, .val (.long qt), .second, .val (.long qd), .second, .val (.int fl), .val (.int c), .val (.long dl), .second, .val (.long m2), .second, .val (.int c2), .val (.long w2), .second, .val (.long t2), .second, .val (.ref b30), .val (.ref b35), .val (.int (own_x fl)), .val (.int (own_e qm m2 (nar .boolean c) (nar .boolean c2) qw w2 qt t2)), .val (.int (own_e m2 qm (nar .boolean c2) (nar .boolean c) w2 qw t2 qt)), .unset, .unset, .unset] [(.ref b30), (.ref b30)])) rfl (by rw [hml]; rfl) (Steps.refl _) (argsL := [(.ref b30)]) (rest := []) (lenOf pd_PLjava_lang_Object_QZ rfl) rfl (by show 2 * 0 + _ ≤ _; exact Nat.le_of_eq rfl) (hb hby at_168) (fun _ _ => ⟨rfl, e54, (by decide : 2 + 0 ≤ _), (by decide : 8 + 0 ≤ _)⟩)
  dsimp only [Pt.U, Pt.locs, Pt.cells, Pt.slots] at X57 l57 y57 z57 st57 hQ57
  subst l57 y57 z57
  obtain ⟨rfl, N57q, e57⟩ := hQ57
  have N57 := Fr.app N54 N57q
  have K57 : ∀ t, Steps p.tables e below (T57.setTop (mkF m 171 #[.val (.long qm), .second, .val (.long qw), .second, .val (.long qt), .second, .val (.long qd), .second, .val (.int fl), .val (.int c), .val (.long dl), .second, .val (.long m2), .second, .val (.int c2), .val (.long w2), .second, .val (.long t2), .second, .val (.ref b30), .val (.ref b35), .val (.int (own_x fl)), .val (.int (own_e qm m2 (nar .boolean c) (nar .boolean c2) qw w2 qt t2)), .val (.int (own_e m2 qm (nar .boolean c2) (nar .boolean c) w2 qw t2 qt)), .unset, .unset, .unset] [(.int (own_e qm qm (nar .boolean c) (nar .boolean c) qw qw qt qt))])) t → Steps p.tables e below G0 t := fun t kt => K55 t (st57.trans kt)
  have K58 : ∀ t, Steps p.tables e below (T57.setTop (mkF m 176 #[.val (.long qm), .second, .val (.long qw), .second, .val (.long qt), .second, .val (.long qd), .second, .val (.int fl), .val (.int c), .val (.long dl), .second, .val (.long m2), .second, .val (.int c2), .val (.long w2), .second, .val (.long t2), .second, .val (.ref b30), .val (.ref b35), .val (.int (own_x fl)), .val (.int (own_e qm m2 (nar .boolean c) (nar .boolean c2) qw w2 qt t2)), .val (.int (own_e m2 qm (nar .boolean c2) (nar .boolean c) w2 qw t2 qt)), .val (.int (own_e qm qm (nar .boolean c) (nar .boolean c) qw qw qt qt)), .unset, .unset] [.null, (.ref b30)])) t → Steps p.tables e below G0 t := by
    intro t kt
    refine K57 t ?_
    refine XS.istore X57.here hx rfl (hb hby at_171) rfl (l' := #[.val (.long qm), .second, .val (.long qw), .second, .val (.long qt), .second, .val (.long qd), .second, .val (.int fl), .val (.int c), .val (.long dl), .second, .val (.long m2), .second, .val (.int c2), .val (.long w2), .second, .val (.long t2), .second, .val (.ref b30), .val (.ref b35), .val (.int (own_x fl)), .val (.int (own_e qm m2 (nar .boolean c) (nar .boolean c2) qw w2 qt t2)), .val (.int (own_e m2 qm (nar .boolean c2) (nar .boolean c) w2 qw t2 qt)), .val (.int (own_e qm qm (nar .boolean c) (nar .boolean c) qw qw qt qt)), .unset, .unset]) rfl ?_
    show Steps p.tables e below (T57.setTop (mkF m 173 #[.val (.long qm), .second, .val (.long qw), .second, .val (.long qt), .second, .val (.long qd), .second, .val (.int fl), .val (.int c), .val (.long dl), .second, .val (.long m2), .second, .val (.int c2), .val (.long w2), .second, .val (.long t2), .second, .val (.ref b30), .val (.ref b35), .val (.int (own_x fl)), .val (.int (own_e qm m2 (nar .boolean c) (nar .boolean c2) qw w2 qt t2)), .val (.int (own_e m2 qm (nar .boolean c2) (nar .boolean c) w2 qw t2 qt)), .val (.int (own_e qm qm (nar .boolean c) (nar .boolean c) qw qw qt qt)), .unset, .unset] [])) _
    refine XS.aload X57.here hx rfl (hb hby at_173) rfl rfl ?_
    show Steps p.tables e below (T57.setTop (mkF m 175 #[.val (.long qm), .second, .val (.long qw), .second, .val (.long qt), .second, .val (.long qd), .second, .val (.int fl), .val (.int c), .val (.long dl), .second, .val (.long m2), .second, .val (.int c2), .val (.long w2), .second, .val (.long t2), .second, .val (.ref b30), .val (.ref b35), .val (.int (own_x fl)), .val (.int (own_e qm m2 (nar .boolean c) (nar .boolean c2) qw w2 qt t2)), .val (.int (own_e m2 qm (nar .boolean c2) (nar .boolean c) w2 qw t2 qt)), .val (.int (own_e qm qm (nar .boolean c) (nar .boolean c) qw qw qt qt)), .unset, .unset] [(.ref b30)])) _
    refine XS.aconstNull X57.here hx rfl (hb hby at_175) ?_
    show Steps p.tables e below (T57.setTop (mkF m 176 #[.val (.long qm), .second, .val (.long qw), .second, .val (.long qt), .second, .val (.long qd), .second, .val (.int fl), .val (.int c), .val (.long dl), .second, .val (.long m2), .second, .val (.int c2), .val (.long w2), .second, .val (.long t2), .second, .val (.ref b30), .val (.ref b35), .val (.int (own_x fl)), .val (.int (own_e qm m2 (nar .boolean c) (nar .boolean c2) qw w2 qt t2)), .val (.int (own_e m2 qm (nar .boolean c2) (nar .boolean c) w2 qw t2 qt)), .val (.int (own_e qm qm (nar .boolean c) (nar .boolean c) qw qw qt qt)), .unset, .unset] [.null, (.ref b30)])) _
    exact kt
  obtain ⟨cq59, kq59, q59a, q59b, q59c⟩ := isOf hZ e57 f48
  obtain ⟨_, _, ⟨T60, L60, k60, n60⟩, -, X60, ⟨Lc60, hQ60, l60, y60, z60⟩, st60⟩ := X57.virtualBack hx (y := (⟨"com/example/slackwise/slackwise/replay/JobOutcome", "equals", "(Ljava/lang/Object;)Z"⟩ : MethodName)) (z := (⟨"com/example/slackwise/slackwise/replay/JobOutcome", "equals", "(Ljava/lang/Object;)Z"⟩ : MethodName)) hown (mvT hZ (hw _ (List.mem_of_getElem? (i := 17) rfl))) (mvT hZ (hw _ (List.mem_of_getElem? (i := 18) rfl))) (notFace_of_selects (args := #[]) (mvT hZ (hw _ (List.mem_of_getElem? (i := 20) rfl)))) (mvT hZ (hw _ (List.mem_of_getElem? (i := 20) rfl))) (mvT hZ (hw _ (List.mem_of_getElem? (i := 19) rfl))) (by decide) (backOf (W := 0) (rm3n l Z aa hw [] (b30)  T38.heap n0 ZZ36 ) hZ (hw _ (List.mem_of_getElem? (i := 21) rfl)) (hw _ (List.mem_of_getElem? (i := 2) rfl)) (by decide) (by decide)) q59a q59c (g := (mkF m 176 #[.val (.long qm), .second, .val (.long qw), .second, .val (.long qt), .second, .val (.long qd), .second, .val (.int fl), .val (.int c), .val (.long dl), .second, .val (.long m2), .second, .val (.int c2), .val (.long w2), .second, .val (.long t2), .second, .val (.ref b30), .val (.ref b35), .val (.int (own_x fl)), .val (.int (own_e qm m2 (nar .boolean c) (nar .boolean c2) qw w2 qt t2)), .val (.int (own_e m2 qm (nar .boolean c2) (nar .boolean c) w2 qw t2 qt)), .val (.int (own_e qm qm (nar .boolean c) (nar .boolean c) qw qw qt qt)), .unset, .unset] [.null, (.ref b30)])) rfl (by rw [hml]; rfl) (Steps.refl _) (argsL := [.null]) (rest := []) (lenOf pd_PLjava_lang_Object_QZ rfl) rfl (by show 2 * 0 + _ ≤ _; exact Nat.le_of_eq rfl) (hb hby at_176) (fun _ _ => ⟨rfl, e57, (by decide : 2 + 0 ≤ _), (by decide : 8 + 0 ≤ _)⟩)
  dsimp only [Pt.U, Pt.locs, Pt.cells, Pt.slots] at X60 l60 y60 z60 st60 hQ60
  subst l60 y60 z60
  obtain ⟨rfl, N60q, e60⟩ := hQ60
  have N60 := Fr.app N57 N60q
  have K60 : ∀ t, Steps p.tables e below (T60.setTop (mkF m 179 #[.val (.long qm), .second, .val (.long qw), .second, .val (.long qt), .second, .val (.long qd), .second, .val (.int fl), .val (.int c), .val (.long dl), .second, .val (.long m2), .second, .val (.int c2), .val (.long w2), .second, .val (.long t2), .second, .val (.ref b30), .val (.ref b35), .val (.int (own_x fl)), .val (.int (own_e qm m2 (nar .boolean c) (nar .boolean c2) qw w2 qt t2)), .val (.int (own_e m2 qm (nar .boolean c2) (nar .boolean c) w2 qw t2 qt)), .val (.int (own_e qm qm (nar .boolean c) (nar .boolean c) qw qw qt qt)), .unset, .unset] [(.int (0 : Int32))])) t → Steps p.tables e below G0 t := fun t kt => K58 t (st60.trans kt)
  have K61 : ∀ t, Steps p.tables e below (T60.setTop (mkF m 184 #[.val (.long qm), .second, .val (.long qw), .second, .val (.long qt), .second, .val (.long qd), .second, .val (.int fl), .val (.int c), .val (.long dl), .second, .val (.long m2), .second, .val (.int c2), .val (.long w2), .second, .val (.long t2), .second, .val (.ref b30), .val (.ref b35), .val (.int (own_x fl)), .val (.int (own_e qm m2 (nar .boolean c) (nar .boolean c2) qw w2 qt t2)), .val (.int (own_e m2 qm (nar .boolean c2) (nar .boolean c) w2 qw t2 qt)), .val (.int (own_e qm qm (nar .boolean c) (nar .boolean c) qw qw qt qt)), .val (.int (0 : Int32)), .unset] [(.long qm), (.ref b30)])) t → Steps p.tables e below G0 t := by
    intro t kt
    refine K60 t ?_
    refine XS.istore X60.here hx rfl (hb hby at_179) rfl (l' := #[.val (.long qm), .second, .val (.long qw), .second, .val (.long qt), .second, .val (.long qd), .second, .val (.int fl), .val (.int c), .val (.long dl), .second, .val (.long m2), .second, .val (.int c2), .val (.long w2), .second, .val (.long t2), .second, .val (.ref b30), .val (.ref b35), .val (.int (own_x fl)), .val (.int (own_e qm m2 (nar .boolean c) (nar .boolean c2) qw w2 qt t2)), .val (.int (own_e m2 qm (nar .boolean c2) (nar .boolean c) w2 qw t2 qt)), .val (.int (own_e qm qm (nar .boolean c) (nar .boolean c) qw qw qt qt)), .val (.int (0 : Int32)), .unset]) rfl ?_
    show Steps p.tables e below (T60.setTop (mkF m 181 #[.val (.long qm), .second, .val (.long qw), .second, .val (.long qt), .second, .val (.long qd), .second, .val (.int fl), .val (.int c), .val (.long dl), .second, .val (.long m2), .second, .val (.int c2), .val (.long w2), .second, .val (.long t2), .second, .val (.ref b30), .val (.ref b35), .val (.int (own_x fl)), .val (.int (own_e qm m2 (nar .boolean c) (nar .boolean c2) qw w2 qt t2)), .val (.int (own_e m2 qm (nar .boolean c2) (nar .boolean c) w2 qw t2 qt)), .val (.int (own_e qm qm (nar .boolean c) (nar .boolean c) qw qw qt qt)), .val (.int (0 : Int32)), .unset] [])) _
    refine XS.aload X60.here hx rfl (hb hby at_181) rfl rfl ?_
    show Steps p.tables e below (T60.setTop (mkF m 183 #[.val (.long qm), .second, .val (.long qw), .second, .val (.long qt), .second, .val (.long qd), .second, .val (.int fl), .val (.int c), .val (.long dl), .second, .val (.long m2), .second, .val (.int c2), .val (.long w2), .second, .val (.long t2), .second, .val (.ref b30), .val (.ref b35), .val (.int (own_x fl)), .val (.int (own_e qm m2 (nar .boolean c) (nar .boolean c2) qw w2 qt t2)), .val (.int (own_e m2 qm (nar .boolean c2) (nar .boolean c) w2 qw t2 qt)), .val (.int (own_e qm qm (nar .boolean c) (nar .boolean c) qw qw qt qt)), .val (.int (0 : Int32)), .unset] [(.ref b30)])) _
    refine XS.lloadN X60.here hx rfl (hb hby at_183) rfl ?_
    show Steps p.tables e below (T60.setTop (mkF m 184 #[.val (.long qm), .second, .val (.long qw), .second, .val (.long qt), .second, .val (.long qd), .second, .val (.int fl), .val (.int c), .val (.long dl), .second, .val (.long m2), .second, .val (.int c2), .val (.long w2), .second, .val (.long t2), .second, .val (.ref b30), .val (.ref b35), .val (.int (own_x fl)), .val (.int (own_e qm m2 (nar .boolean c) (nar .boolean c2) qw w2 qt t2)), .val (.int (own_e m2 qm (nar .boolean c2) (nar .boolean c) w2 qw t2 qt)), .val (.int (own_e qm qm (nar .boolean c) (nar .boolean c) qw qw qt qt)), .val (.int (0 : Int32)), .unset] [(.long qm), (.ref b30)])) _
    exact kt
  have f62 := ((((HO.ext E30).keep KK31 (fun x hx => by cases List.mem_singleton.mp hx; exact gn30)).ext E35).keep KK36 (fun x hx => by cases List.mem_singleton.mp hx; exact gn35))
  have BE63 := BX.ext f62.2
  obtain ⟨_, _, ⟨T64, L64, k64, n64⟩, -, X64, ⟨Lc64, hQ64, l64, y64, z64⟩, st64⟩ := Jvm.LawKit.callS X60 hx (y := (⟨"java/lang/Long", "valueOf", "(J)Ljava/lang/Long;"⟩ : MethodName)) hown (mvT hZ (hw _ (List.mem_of_getElem? (i := 24) rfl))) (mvT hZ (hw _ (List.mem_of_getElem? (i := 25) rfl))) (mvT hZ (hw _ (List.mem_of_getElem? (i := 26) rfl))) (mvT hZ (hw _ (List.mem_of_getElem? (i := 27) rfl))) (by decide) (backOf (W := 1) (rm4 l Z aa hw [] (qm) ca cc T38.heap n0 ZZ36 (SC.ext f62.2) BE63.1 BE63.2.1 (fun j hj => by obtain ⟨b, h1, h2, -⟩ := BX.2.2.2 j hj; exact ⟨b, h1, h2.ext f62.2⟩)) hZ (hw _ (List.mem_of_getElem? (i := 27) rfl)) (hw _ (List.mem_of_getElem? (i := 26) rfl)) (by decide) (by decide)) (g := (mkF m 184 #[.val (.long qm), .second, .val (.long qw), .second, .val (.long qt), .second, .val (.long qd), .second, .val (.int fl), .val (.int c), .val (.long dl), .second, .val (.long m2), .second, .val (.int c2), .val (.long w2), .second, .val (.long t2), .second, .val (.ref b30), .val (.ref b35), .val (.int (own_x fl)), .val (.int (own_e qm m2 (nar .boolean c) (nar .boolean c2) qw w2 qt t2)), .val (.int (own_e m2 qm (nar .boolean c2) (nar .boolean c) w2 qw t2 qt)), .val (.int (own_e qm qm (nar .boolean c) (nar .boolean c) qw qw qt qt)), .val (.int (0 : Int32)), .unset] [(.long qm), (.ref b30)])) rfl (by rw [hml]; rfl) (argsL := [(.long qm)]) (rest := [(.ref b30)]) (lenOf pd_PJQLjava_lang_Long_ rfl) rfl (by show 2 * 0 + _ ≤ _; exact Nat.le_of_eq rfl) (hb hby at_184) (fun _ _ => ⟨rfl, e60, (by decide : 2 + 1 ≤ _), (by decide : 8 + 1 ≤ _)⟩)
  dsimp only [Pt.U, Pt.locs, Pt.cells, Pt.slots] at X64 l64 y64 z64 st64 hQ64
  subst l64 y64 z64
  obtain ⟨r64, rfl, N64q, KV64, EV64⟩ := hQ64
  have N64 := Fr.app N60 N64q
  have K64 : ∀ t, Steps p.tables e below (T64.setTop (mkF m 187 #[.val (.long qm), .second, .val (.long qw), .second, .val (.long qt), .second, .val (.long qd), .second, .val (.int fl), .val (.int c), .val (.long dl), .second, .val (.long m2), .second, .val (.int c2), .val (.long w2), .second, .val (.long t2), .second, .val (.ref b30), .val (.ref b35), .val (.int (own_x fl)), .val (.int (own_e qm m2 (nar .boolean c) (nar .boolean c2) qw w2 qt t2)), .val (.int (own_e m2 qm (nar .boolean c2) (nar .boolean c) w2 qw t2 qt)), .val (.int (own_e qm qm (nar .boolean c) (nar .boolean c) qw qw qt qt)), .val (.int (0 : Int32)), .unset] [(.ref r64), (.ref b30)])) t → Steps p.tables e below G0 t := fun t kt => K61 t (st64 _ kt)
  have Z64 : n0 ≤ T64.heap.size := Nat.le_trans ZZ36 KV64.1
  have f65 := (f48.keep KV64)
  obtain ⟨cq66, kq66, q66a, q66b, q66c⟩ := isOf hZ (rfl : T64.heap = _) f65
  obtain ⟨_, _, ⟨T67, L67, k67, n67⟩, -, X67, ⟨Lc67, hQ67, l67, y67, z67⟩, st67⟩ := X64.virtualBack hx (y := (⟨"com/example/slackwise/slackwise/replay/JobOutcome", "equals", "(Ljava/lang/Object;)Z"⟩ : MethodName)) (z := (⟨"com/example/slackwise/slackwise/replay/JobOutcome", "equals", "(Ljava/lang/Object;)Z"⟩ : MethodName)) hown (mvT hZ (hw _ (List.mem_of_getElem? (i := 17) rfl))) (mvT hZ (hw _ (List.mem_of_getElem? (i := 18) rfl))) (notFace_of_selects (args := #[]) (mvT hZ (hw _ (List.mem_of_getElem? (i := 20) rfl)))) (mvT hZ (hw _ (List.mem_of_getElem? (i := 20) rfl))) (mvT hZ (hw _ (List.mem_of_getElem? (i := 19) rfl))) (by decide) (backOf (W := 0) (rm3l l Z aa hw [] (b30) (r64)  T64.heap n0 Z64 EV64) hZ (hw _ (List.mem_of_getElem? (i := 21) rfl)) (hw _ (List.mem_of_getElem? (i := 2) rfl)) (by decide) (by decide)) q66a q66c (g := (mkF m 187 #[.val (.long qm), .second, .val (.long qw), .second, .val (.long qt), .second, .val (.long qd), .second, .val (.int fl), .val (.int c), .val (.long dl), .second, .val (.long m2), .second, .val (.int c2), .val (.long w2), .second, .val (.long t2), .second, .val (.ref b30), .val (.ref b35), .val (.int (own_x fl)), .val (.int (own_e qm m2 (nar .boolean c) (nar .boolean c2) qw w2 qt t2)), .val (.int (own_e m2 qm (nar .boolean c2) (nar .boolean c) w2 qw t2 qt)), .val (.int (own_e qm qm (nar .boolean c) (nar .boolean c) qw qw qt qt)), .val (.int (0 : Int32)), .unset] [(.ref r64), (.ref b30)])) rfl (by rw [hml]; rfl) (Steps.refl _) (argsL := [(.ref r64)]) (rest := []) (lenOf pd_PLjava_lang_Object_QZ rfl) rfl (by show 2 * 0 + _ ≤ _; exact Nat.le_of_eq rfl) (hb hby at_187) (fun _ _ => ⟨rfl, (rfl : T64.heap = _), (by decide : 3 + 0 ≤ _), (by decide : 9 + 0 ≤ _)⟩)
  dsimp only [Pt.U, Pt.locs, Pt.cells, Pt.slots] at X67 l67 y67 z67 st67 hQ67
  subst l67 y67 z67
  obtain ⟨rfl, N67q, e67⟩ := hQ67
  have N67 := Fr.app N64 N67q
  have K67 : ∀ t, Steps p.tables e below (T67.setTop (mkF m 190 #[.val (.long qm), .second, .val (.long qw), .second, .val (.long qt), .second, .val (.long qd), .second, .val (.int fl), .val (.int c), .val (.long dl), .second, .val (.long m2), .second, .val (.int c2), .val (.long w2), .second, .val (.long t2), .second, .val (.ref b30), .val (.ref b35), .val (.int (own_x fl)), .val (.int (own_e qm m2 (nar .boolean c) (nar .boolean c2) qw w2 qt t2)), .val (.int (own_e m2 qm (nar .boolean c2) (nar .boolean c) w2 qw t2 qt)), .val (.int (own_e qm qm (nar .boolean c) (nar .boolean c) qw qw qt qt)), .val (.int (0 : Int32)), .unset] [(.int (0 : Int32))])) t → Steps p.tables e below G0 t := fun t kt => K64 t (st67.trans kt)
  have K68 : ∀ t, Steps p.tables e below (T67.setTop (mkF m 226 #[.val (.long qm), .second, .val (.long qw), .second, .val (.long qt), .second, .val (.long qd), .second, .val (.int fl), .val (.int c), .val (.long dl), .second, .val (.long m2), .second, .val (.int c2), .val (.long w2), .second, .val (.long t2), .second, .val (.ref b30), .val (.ref b35), .val (.int (own_x fl)), .val (.int (own_e qm m2 (nar .boolean c) (nar .boolean c2) qw w2 qt t2)), .val (.int (own_e m2 qm (nar .boolean c2) (nar .boolean c) w2 qw t2 qt)), .val (.int (own_e qm qm (nar .boolean c) (nar .boolean c) qw qw qt qt)), .val (.int (0 : Int32)), .val (.int (0 : Int32))] [(.int (1 : Int32))])) t → Steps p.tables e below G0 t := by
    intro t kt
    refine K67 t ?_
    refine XS.istore X67.here hx rfl (hb hby at_190) rfl (l' := #[.val (.long qm), .second, .val (.long qw), .second, .val (.long qt), .second, .val (.long qd), .second, .val (.int fl), .val (.int c), .val (.long dl), .second, .val (.long m2), .second, .val (.int c2), .val (.long w2), .second, .val (.long t2), .second, .val (.ref b30), .val (.ref b35), .val (.int (own_x fl)), .val (.int (own_e qm m2 (nar .boolean c) (nar .boolean c2) qw w2 qt t2)), .val (.int (own_e m2 qm (nar .boolean c2) (nar .boolean c) w2 qw t2 qt)), .val (.int (own_e qm qm (nar .boolean c) (nar .boolean c) qw qw qt qt)), .val (.int (0 : Int32)), .val (.int (0 : Int32))]) rfl ?_
    show Steps p.tables e below (T67.setTop (mkF m 192 #[.val (.long qm), .second, .val (.long qw), .second, .val (.long qt), .second, .val (.long qd), .second, .val (.int fl), .val (.int c), .val (.long dl), .second, .val (.long m2), .second, .val (.int c2), .val (.long w2), .second, .val (.long t2), .second, .val (.ref b30), .val (.ref b35), .val (.int (own_x fl)), .val (.int (own_e qm m2 (nar .boolean c) (nar .boolean c2) qw w2 qt t2)), .val (.int (own_e m2 qm (nar .boolean c2) (nar .boolean c) w2 qw t2 qt)), .val (.int (own_e qm qm (nar .boolean c) (nar .boolean c) qw qw qt qt)), .val (.int (0 : Int32)), .val (.int (0 : Int32))] [])) _
    refine XS.iload X67.here hx rfl (hb hby at_192) rfl ?_
    show Steps p.tables e below (T67.setTop (mkF m 194 #[.val (.long qm), .second, .val (.long qw), .second, .val (.long qt), .second, .val (.long qd), .second, .val (.int fl), .val (.int c), .val (.long dl), .second, .val (.long m2), .second, .val (.int c2), .val (.long w2), .second, .val (.long t2), .second, .val (.ref b30), .val (.ref b35), .val (.int (own_x fl)), .val (.int (own_e qm m2 (nar .boolean c) (nar .boolean c2) qw w2 qt t2)), .val (.int (own_e m2 qm (nar .boolean c2) (nar .boolean c) w2 qw t2 qt)), .val (.int (own_e qm qm (nar .boolean c) (nar .boolean c) qw qw qt qt)), .val (.int (0 : Int32)), .val (.int (0 : Int32))] [(.int (own_e qm m2 (nar .boolean c) (nar .boolean c2) qw w2 qt t2))])) _
    refine XS.iload X67.here hx rfl (hb hby at_194) rfl ?_
    show Steps p.tables e below (T67.setTop (mkF m 196 #[.val (.long qm), .second, .val (.long qw), .second, .val (.long qt), .second, .val (.long qd), .second, .val (.int fl), .val (.int c), .val (.long dl), .second, .val (.long m2), .second, .val (.int c2), .val (.long w2), .second, .val (.long t2), .second, .val (.ref b30), .val (.ref b35), .val (.int (own_x fl)), .val (.int (own_e qm m2 (nar .boolean c) (nar .boolean c2) qw w2 qt t2)), .val (.int (own_e m2 qm (nar .boolean c2) (nar .boolean c) w2 qw t2 qt)), .val (.int (own_e qm qm (nar .boolean c) (nar .boolean c) qw qw qt qt)), .val (.int (0 : Int32)), .val (.int (0 : Int32))] [(.int (own_x fl)), (.int (own_e qm m2 (nar .boolean c) (nar .boolean c2) qw w2 qt t2))])) _
    refine XS.icmpNo X67.here hx rfl (hb hby at_196) rfl (teq hmain).2 ?_
    show Steps p.tables e below (T67.setTop (mkF m 199 #[.val (.long qm), .second, .val (.long qw), .second, .val (.long qt), .second, .val (.long qd), .second, .val (.int fl), .val (.int c), .val (.long dl), .second, .val (.long m2), .second, .val (.int c2), .val (.long w2), .second, .val (.long t2), .second, .val (.ref b30), .val (.ref b35), .val (.int (own_x fl)), .val (.int (own_e qm m2 (nar .boolean c) (nar .boolean c2) qw w2 qt t2)), .val (.int (own_e m2 qm (nar .boolean c2) (nar .boolean c) w2 qw t2 qt)), .val (.int (own_e qm qm (nar .boolean c) (nar .boolean c) qw qw qt qt)), .val (.int (0 : Int32)), .val (.int (0 : Int32))] [])) _
    refine XS.iload X67.here hx rfl (hb hby at_199) rfl ?_
    show Steps p.tables e below (T67.setTop (mkF m 201 #[.val (.long qm), .second, .val (.long qw), .second, .val (.long qt), .second, .val (.long qd), .second, .val (.int fl), .val (.int c), .val (.long dl), .second, .val (.long m2), .second, .val (.int c2), .val (.long w2), .second, .val (.long t2), .second, .val (.ref b30), .val (.ref b35), .val (.int (own_x fl)), .val (.int (own_e qm m2 (nar .boolean c) (nar .boolean c2) qw w2 qt t2)), .val (.int (own_e m2 qm (nar .boolean c2) (nar .boolean c) w2 qw t2 qt)), .val (.int (own_e qm qm (nar .boolean c) (nar .boolean c) qw qw qt qt)), .val (.int (0 : Int32)), .val (.int (0 : Int32))] [(.int (own_e m2 qm (nar .boolean c2) (nar .boolean c) w2 qw t2 qt))])) _
    refine XS.iload X67.here hx rfl (hb hby at_201) rfl ?_
    show Steps p.tables e below (T67.setTop (mkF m 203 #[.val (.long qm), .second, .val (.long qw), .second, .val (.long qt), .second, .val (.long qd), .second, .val (.int fl), .val (.int c), .val (.long dl), .second, .val (.long m2), .second, .val (.int c2), .val (.long w2), .second, .val (.long t2), .second, .val (.ref b30), .val (.ref b35), .val (.int (own_x fl)), .val (.int (own_e qm m2 (nar .boolean c) (nar .boolean c2) qw w2 qt t2)), .val (.int (own_e m2 qm (nar .boolean c2) (nar .boolean c) w2 qw t2 qt)), .val (.int (own_e qm qm (nar .boolean c) (nar .boolean c) qw qw qt qt)), .val (.int (0 : Int32)), .val (.int (0 : Int32))] [(.int (own_x fl)), (.int (own_e m2 qm (nar .boolean c2) (nar .boolean c) w2 qw t2 qt))])) _
    refine XS.icmpNo X67.here hx rfl (hb hby at_203) rfl (teq ((own_esym _ _ _ _ _ _ _ _).trans hmain)).2 ?_
    show Steps p.tables e below (T67.setTop (mkF m 206 #[.val (.long qm), .second, .val (.long qw), .second, .val (.long qt), .second, .val (.long qd), .second, .val (.int fl), .val (.int c), .val (.long dl), .second, .val (.long m2), .second, .val (.int c2), .val (.long w2), .second, .val (.long t2), .second, .val (.ref b30), .val (.ref b35), .val (.int (own_x fl)), .val (.int (own_e qm m2 (nar .boolean c) (nar .boolean c2) qw w2 qt t2)), .val (.int (own_e m2 qm (nar .boolean c2) (nar .boolean c) w2 qw t2 qt)), .val (.int (own_e qm qm (nar .boolean c) (nar .boolean c) qw qw qt qt)), .val (.int (0 : Int32)), .val (.int (0 : Int32))] [])) _
    refine XS.iload X67.here hx rfl (hb hby at_206) rfl ?_
    show Steps p.tables e below (T67.setTop (mkF m 208 #[.val (.long qm), .second, .val (.long qw), .second, .val (.long qt), .second, .val (.long qd), .second, .val (.int fl), .val (.int c), .val (.long dl), .second, .val (.long m2), .second, .val (.int c2), .val (.long w2), .second, .val (.long t2), .second, .val (.ref b30), .val (.ref b35), .val (.int (own_x fl)), .val (.int (own_e qm m2 (nar .boolean c) (nar .boolean c2) qw w2 qt t2)), .val (.int (own_e m2 qm (nar .boolean c2) (nar .boolean c) w2 qw t2 qt)), .val (.int (own_e qm qm (nar .boolean c) (nar .boolean c) qw qw qt qt)), .val (.int (0 : Int32)), .val (.int (0 : Int32))] [(.int (own_e qm qm (nar .boolean c) (nar .boolean c) qw qw qt qt))])) _
    refine XS.ifNo X67.here hx rfl (hb hby at_208) rfl ((if0 _ _).trans (feq (by rw [own_eself]; decide)).1) ?_
    show Steps p.tables e below (T67.setTop (mkF m 211 #[.val (.long qm), .second, .val (.long qw), .second, .val (.long qt), .second, .val (.long qd), .second, .val (.int fl), .val (.int c), .val (.long dl), .second, .val (.long m2), .second, .val (.int c2), .val (.long w2), .second, .val (.long t2), .second, .val (.ref b30), .val (.ref b35), .val (.int (own_x fl)), .val (.int (own_e qm m2 (nar .boolean c) (nar .boolean c2) qw w2 qt t2)), .val (.int (own_e m2 qm (nar .boolean c2) (nar .boolean c) w2 qw t2 qt)), .val (.int (own_e qm qm (nar .boolean c) (nar .boolean c) qw qw qt qt)), .val (.int (0 : Int32)), .val (.int (0 : Int32))] [])) _
    refine XS.iload X67.here hx rfl (hb hby at_211) rfl ?_
    show Steps p.tables e below (T67.setTop (mkF m 213 #[.val (.long qm), .second, .val (.long qw), .second, .val (.long qt), .second, .val (.long qd), .second, .val (.int fl), .val (.int c), .val (.long dl), .second, .val (.long m2), .second, .val (.int c2), .val (.long w2), .second, .val (.long t2), .second, .val (.ref b30), .val (.ref b35), .val (.int (own_x fl)), .val (.int (own_e qm m2 (nar .boolean c) (nar .boolean c2) qw w2 qt t2)), .val (.int (own_e m2 qm (nar .boolean c2) (nar .boolean c) w2 qw t2 qt)), .val (.int (own_e qm qm (nar .boolean c) (nar .boolean c) qw qw qt qt)), .val (.int (0 : Int32)), .val (.int (0 : Int32))] [(.int (0 : Int32))])) _
    refine XS.ifNo X67.here hx rfl (hb hby at_213) rfl ((if0 _ _).trans (teq rfl).2) ?_
    show Steps p.tables e below (T67.setTop (mkF m 216 #[.val (.long qm), .second, .val (.long qw), .second, .val (.long qt), .second, .val (.long qd), .second, .val (.int fl), .val (.int c), .val (.long dl), .second, .val (.long m2), .second, .val (.int c2), .val (.long w2), .second, .val (.long t2), .second, .val (.ref b30), .val (.ref b35), .val (.int (own_x fl)), .val (.int (own_e qm m2 (nar .boolean c) (nar .boolean c2) qw w2 qt t2)), .val (.int (own_e m2 qm (nar .boolean c2) (nar .boolean c) w2 qw t2 qt)), .val (.int (own_e qm qm (nar .boolean c) (nar .boolean c) qw qw qt qt)), .val (.int (0 : Int32)), .val (.int (0 : Int32))] [])) _
    refine XS.iload X67.here hx rfl (hb hby at_216) rfl ?_
    show Steps p.tables e below (T67.setTop (mkF m 218 #[.val (.long qm), .second, .val (.long qw), .second, .val (.long qt), .second, .val (.long qd), .second, .val (.int fl), .val (.int c), .val (.long dl), .second, .val (.long m2), .second, .val (.int c2), .val (.long w2), .second, .val (.long t2), .second, .val (.ref b30), .val (.ref b35), .val (.int (own_x fl)), .val (.int (own_e qm m2 (nar .boolean c) (nar .boolean c2) qw w2 qt t2)), .val (.int (own_e m2 qm (nar .boolean c2) (nar .boolean c) w2 qw t2 qt)), .val (.int (own_e qm qm (nar .boolean c) (nar .boolean c) qw qw qt qt)), .val (.int (0 : Int32)), .val (.int (0 : Int32))] [(.int (0 : Int32))])) _
    refine XS.ifNo X67.here hx rfl (hb hby at_218) rfl ((if0 _ _).trans (teq rfl).2) ?_
    show Steps p.tables e below (T67.setTop (mkF m 221 #[.val (.long qm), .second, .val (.long qw), .second, .val (.long qt), .second, .val (.long qd), .second, .val (.int fl), .val (.int c), .val (.long dl), .second, .val (.long m2), .second, .val (.int c2), .val (.long w2), .second, .val (.long t2), .second, .val (.ref b30), .val (.ref b35), .val (.int (own_x fl)), .val (.int (own_e qm m2 (nar .boolean c) (nar .boolean c2) qw w2 qt t2)), .val (.int (own_e m2 qm (nar .boolean c2) (nar .boolean c) w2 qw t2 qt)), .val (.int (own_e qm qm (nar .boolean c) (nar .boolean c) qw qw qt qt)), .val (.int (0 : Int32)), .val (.int (0 : Int32))] [])) _
    refine XS.iconst X67.here hx rfl (hb hby at_221) ?_
    show Steps p.tables e below (T67.setTop (mkF m 222 #[.val (.long qm), .second, .val (.long qw), .second, .val (.long qt), .second, .val (.long qd), .second, .val (.int fl), .val (.int c), .val (.long dl), .second, .val (.long m2), .second, .val (.int c2), .val (.long w2), .second, .val (.long t2), .second, .val (.ref b30), .val (.ref b35), .val (.int (own_x fl)), .val (.int (own_e qm m2 (nar .boolean c) (nar .boolean c2) qw w2 qt t2)), .val (.int (own_e m2 qm (nar .boolean c2) (nar .boolean c) w2 qw t2 qt)), .val (.int (own_e qm qm (nar .boolean c) (nar .boolean c) qw qw qt qt)), .val (.int (0 : Int32)), .val (.int (0 : Int32))] [(.int (1 : Int32))])) _
    refine XS.goto X67.here hx rfl (pc0 := 222) (pc' := 226) rfl (hb hby at_222) (by decide) (by decide) ?_
    show Steps p.tables e below (T67.setTop (mkF m 226 #[.val (.long qm), .second, .val (.long qw), .second, .val (.long qt), .second, .val (.long qd), .second, .val (.int fl), .val (.int c), .val (.long dl), .second, .val (.long m2), .second, .val (.int c2), .val (.long w2), .second, .val (.long t2), .second, .val (.ref b30), .val (.ref b35), .val (.int (own_x fl)), .val (.int (own_e qm m2 (nar .boolean c) (nar .boolean c2) qw w2 qt t2)), .val (.int (own_e m2 qm (nar .boolean c2) (nar .boolean c) w2 qw t2 qt)), .val (.int (own_e qm qm (nar .boolean c) (nar .boolean c) qw qw qt qt)), .val (.int (0 : Int32)), .val (.int (0 : Int32))] [(.int (1 : Int32))])) _
    exact kt
  obtain ⟨fs, hr, hrun, hended, hW, hsame⟩ := X67.leave (v := some (.int (1 : Int32))) (fun h => by rw [Bd.returns] at h; cases h)
  refine ⟨_, _, ?_, hrun, hended, _, _, rfl, ?_, ⟨_, rfl⟩, hW, hsame.mono (by decide) (by decide)⟩
  · rw [← hG0]
    refine K68 _ ?_
    exact retN X67 hx (t := .boolean) Bd.returns (by simp) (hb hby at_226) hr
  · show Q0 Z qm qw qt qd fl ca cc h0 n0 _ T67.heap _
    rw [e67]
    exact ⟨rfl, N67⟩
set_option maxRecDepth 65536 in
set_option maxHeartbeats 40000000 in
theorem comes_1 {Post : Tables → Env → Array Value → State → Outcome → State → Prop} (hpost : ∀ tb e args s v u, (limb_1_1.after args s (.returned v) u = true ∧ limb_1_2.after args s (.returned v) u = true ∧ True) → FrameEnd s (.returned v) u (Jvm.fieldLocs frame_1_writes args s ++ Jvm.arrayLocs frame_1_arrays args s ++ Jvm.staticLocs frame_1_statics s) 16 128 → Post tb e args s (.returned v) u) :
    ArmFor flags0 classFile x code maxLocals ret World_1 tables_1 room_1 Calls_1 rest_1 Pre_1 Post := by
  intro l hfl _ _ p e ha hc hk s m args below hf hA hF happ hP
  obtain ⟨hcalls, hrest, hpre⟩ := hP
  obtain ⟨-, -, -, hnamed, -, -, -, hat⟩ := (Spec.applies_iff hf).mp happ
  obtain ⟨hg, hn⟩ := and_e (Cond.before_iff.mp (show (Jvm.Cond.and given_1 narrow_1).before args s = true from hpre))
  obtain ⟨g1, g2⟩ := and_e hg
  obtain ⟨g3, g4⟩ := and_e g2
  obtain ⟨g5, g6⟩ := and_e g4
  obtain ⟨g7, g8⟩ := and_e g6
  obtain ⟨g9, g10⟩ := and_e g8
  obtain ⟨w0, w1, w2, w3, w4, rfl⟩ : ∃ w0 w1 w2 w3 w4 : Value, args = #[w0, w1, w2, w3, w4] := by
    have hs : args.size = 5 := by simpa [Cond.value, given_1] using g1
    obtain ⟨L⟩ := args
    match L, hs with
    | [w0, w1, w2, w3, w4], _ => exact ⟨w0, w1, w2, w3, w4, rfl⟩
  have hw := fun d (hd : d ∈ tables_1) => atoms_spec (ws := Jvm.Cond.code x code maxLocals ret :: tables_1) hat d (List.mem_cons_of_mem _ hd)
  have hfit : Fit s := fun {y c} hc i hi => by
    obtain ⟨ha, rfl⟩ := Array.getElem?_eq_some_iff.mp hc
    have q := List.all_eq_true.mp ((Array.all_eq_true_iff_forall_mem.mp hF) _ (Array.getElem_mem ha)) i (List.mem_range.mpr hi)
    simpa [Array.getElem?_eq_getElem hi] using q
  obtain ⟨hsets, hown0⟩ := atoms_of _ (rest_1_c_eq ▸ (show rest_1_c.before _ s = true from hrest))
  have hr0 := Cond.before_iff.mp hown0
  obtain ⟨i0, ei0⟩ := isL_v g3
  obtain rfl : w0 = (.long i0) := Option.some.inj ei0
  obtain ⟨i1, ei1⟩ := isL_v g5
  obtain rfl : w1 = (.long i1) := Option.some.inj ei1
  obtain ⟨i2, ei2⟩ := isL_v g7
  obtain rfl : w2 = (.long i2) := Option.some.inj ei2
  obtain ⟨i3, ei3⟩ := isL_v g9
  obtain rfl : w3 = (.long i3) := Option.some.inj ei3
  obtain ⟨i4, ei4⟩ := is_v g10
  obtain rfl : w4 = (.int i4) := Option.some.inj ei4
  obtain ⟨ca, evc⟩ := arr_v (Cond.before_iff.mp (hsets _ (List.mem_of_getElem? (i := 2) rfl)))
  have SC := Sta.start evc (Or.inl (hsets _ (List.mem_of_getElem? (i := 1) rfl)))
  obtain ⟨cc, AC⟩ := Arr.start evc (Cond.before_iff.mp (hsets _ (List.mem_of_getElem? (i := 2) rfl)))
  have hlen := eqv_i (Term.int_eval (256)) (Cond.before_iff.mp (hsets _ (List.mem_of_getElem? (i := 4) rfl)))
  have hac := AC.fin (Vm.Alike.refl _)
  have hlt : cc.slots.size < 2 ^ 31 := by
    rcases Nat.lt_or_ge cc.slots.size (2 ^ 31) with q | q
    · exact q
    · exfalso
      have q' : ¬ cc.slots.size < 2 ^ 31 := Nat.not_lt.mpr q
      simp [Term.eval] at hlen evc
      simp [evc, hac] at hlen
      omega
  obtain ⟨ca', cl', l1, l2, l3⟩ := Term.length_spec hlen
  obtain rfl : ca' = ca := by have := l1.symm.trans evc; simpa using this
  obtain rfl : cl' = cc := Option.some.inj (l2.symm.trans hac)
  have l4 : cl'.slots.size.toInt32 = (256 : Int32) := by simpa using l3.symm
  have BX := Bxs.start (K := "java/lang/Long") (d := "J") (val := fun j => .long (j - (128 : Int32)).toInt64) (fun idx => (evc : _)) AC hlt l4 (by decide) (Cond.before_iff.mp (hsets _ (List.mem_of_getElem? (i := 5) rfl))) (fun X j nn h => eqv_l (i2l_at (by simp [Term.eval, (back32 nn).1])) h)
  obtain ⟨n, o, h1, h2, h3, _, L, rfl, ⟨rfl, N⟩, hq⟩ := rm0 l s _ hw tables_1 i0 i1 i2 i3 i4 ca' cl' s.heap s.heap.size (Nat.le_refl _) (Old.start s) SC BX p e ha hc hk s m _ below hf ((Spec.applies_iff_loose hf).mp happ).1 ⟨rfl, State.Warmed39.refl s, rfl⟩ trivial
  refine ⟨n, _, h1, h2, h3, hpost _ _ _ _ _ _ ⟨Cond.after_iff.mpr rfl, Cond.after_iff.mpr (eq_i res_at (Term.int_eval (1)) rfl), trivial⟩ ⟨hq.1, hq.2.1, (hq.2.2.sift fun y hy => Or.inr (N y hy)).mono (by decide) (by decide)⟩⟩
theorem main_1_1 : Claimed_1_1 := comes_1 fun _ _ _ _ _ _ h hF => ⟨h.1, hF⟩
theorem main_1_2 : Claimed_1_2 := comes_1 fun _ _ _ _ _ _ h hF => ⟨h.2.1, hF⟩
end Jvm.Pilot.@@N@@
namespace Jvm.Pilot.@@N@@
open Jvm Jvm.ClassFile Sem Op Lib Jvm.Free Jvm.Stand Jvm.Pilot.@@N@@.Jvm.D
/-! MADE BY PROGRAM (witnessworld.py) out of the Statement's table words and the real class files: 16 classes; the members and pool entries that the words name. The judged class is class 1, her method 1. -/
namespace start1
open Jvm.ClassFile
def u (s : String) : CpInfo := .utf8 (stringToUtf16 s)
/-- a pool by its gaps: so many unusable entries, then the entry; so many at the end -/
def gap : Nat → List CpInfo → List CpInfo
  | 0, r => r
  | n + 1, r => .unusable :: gap n r
def poolList (es : List (Nat × CpInfo)) (last : Nat) : List CpInfo := es.foldr (fun e r => gap e.1 (e.2 :: r)) (gap last [])
def pool (es : List (Nat × CpInfo)) (last : Nat) : Array CpInfo := ⟨poolList es last⟩
def fileOf (pool : Array CpInfo) (this : Nat) (attrs : Array Attribute := #[]) (ms : Array MethodInfo := #[]) (fl : Nat := 33) (sup : Nat := 0) (ifs : Array Nat := #[]) (fds : Array FieldInfo := #[]) : ClassFile where
  minorVersion := 0
  majorVersion := 65
  constantPool := pool
  accessFlags := fl
  thisClass := this
  superClass := sup
  interfaces := ifs
  fields := fds
  methods := ms
  attributes := attrs
def plain (name : String) (sup : Option ClassId) : Class where
  name := name
  kind := .ordinary
  loader := none
  accessFlags := 33
  super := sup
  interfaces := #[]
  cf := none
  fields := #[]
  methods := #[]
  instanceTypes := #[]
  staticTypes := #[]
  resolved := #[]
  callSites := []
  init := .initialized
  statics := none
  mirror := none

def pool0 : Array CpInfo := pool [(5, u "<init>"), (0, u "()V"), (1, .class_ 10), (1, u "java/lang/Object")] 113

def k0c0 : Code := { maxStack := 0, maxLocals := 1, code := object_method_1_code, exceptionTable := #[], attributes := #[] }
def k0m0 : Method := { name := "<init>", desc := "()V", sig := { parameters := [], returnType := none }, accessFlags := 1, code := some k0c0 }
/-- java/lang/Object -/
def k0 : Class := { plain "java/lang/Object" none with
  accessFlags := 33
  interfaces := #[]
  cf := some (fileOf pool0 8 #[] #[{ accessFlags := 1, nameIndex := 5, descriptorIndex := 6, attributes := #[] }] 33 0 #[] #[])
  fields := #[]
  methods := #[k0m0]
  instanceTypes := #[]
  staticTypes := #[]
  resolved := Array.replicate 124 none
  statics := none }

def pool1 : Array CpInfo := pool [(2, .class_ 4), (1, u "java/lang/Object"), (0, u "<init>"), (0, u "()V"), (0, .class_ 8), (0, u "com/example/slackwise/slackwise/replay/JobOutcome"), (0, .methodref 7 10), (0, .nameAndType 5 11), (0, u "(JZJJ)V"), (0, .methodref 7 13), (0, .nameAndType 14 15), (0, u "equals"), (0, u "(Ljava/lang/Object;)Z"), (0, .methodref 17 18), (0, .class_ 19), (0, .nameAndType 20 21), (0, u "java/lang/Long"), (0, u "valueOf"), (0, u "(J)Ljava/lang/Long;"), (0, .class_ 23), (0, u "com/example/slackwise/slackwise/replay/JobOutcomeEqualsPinLaw"), (2, u "law"), (0, u "(JJJJI)Z")] 3

def k1m0 : Method := { name := "<init>", desc := "()V", sig := { parameters := [], returnType := none }, accessFlags := 2, code := none }
def k1c1 : Code := { maxStack := 9, maxLocals := 27, code := code, exceptionTable := #[], attributes := #[] }
def k1m1 : Method := { name := "law", desc := "(JJJJI)Z", sig := { parameters := [.long, .long, .long, .long, .int], returnType := some .boolean }, accessFlags := 9, code := some k1c1 }
/-- com/example/slackwise/slackwise/replay/JobOutcomeEqualsPinLaw -/
def k1 : Class := { plain "com/example/slackwise/slackwise/replay/JobOutcomeEqualsPinLaw" (some 0) with
  accessFlags := 49
  interfaces := #[]
  cf := some (fileOf pool1 22 #[] #[{ accessFlags := 2, nameIndex := 5, descriptorIndex := 6, attributes := #[] }, { accessFlags := 9, nameIndex := 26, descriptorIndex := 27, attributes := #[] }] 49 2 #[] #[])
  fields := #[]
  methods := #[k1m0, k1m1]
  instanceTypes := #[]
  staticTypes := #[]
  resolved := Array.replicate 31 none
  statics := none }

def pool2 : Array CpInfo := pool [(1, .methodref 2 3), (0, .class_ 4), (0, .nameAndType 5 6), (0, u "java/lang/Object"), (0, u "<init>"), (0, u "()V"), (0, .fieldref 8 9), (0, .class_ 10), (0, .nameAndType 11 12), (0, u "com/example/slackwise/slackwise/replay/JobOutcome"), (0, u "milliVcores"), (0, u "J"), (0, .fieldref 8 14), (0, .nameAndType 15 16), (0, u "completed"), (0, u "Z"), (0, .fieldref 8 18), (0, .nameAndType 19 12), (0, u "waitS"), (0, .fieldref 8 21), (0, .nameAndType 22 12), (0, u "completionS"), (21, u "(JZJJ)V"), (4, u "equals"), (0, u "(Ljava/lang/Object;)Z")] 22

def k2c0 : Code := { maxStack := 3, maxLocals := 8, code := prog_94_method_1_code, exceptionTable := #[], attributes := #[] }
def k2m0 : Method := { name := "<init>", desc := "(JZJJ)V", sig := { parameters := [.long, .boolean, .long, .long], returnType := none }, accessFlags := 1, code := some k2c0 }
def k2c1 : Code := { maxStack := 4, maxLocals := 3, code := prog_94_method_6_code, exceptionTable := #[], attributes := #[] }
def k2m1 : Method := { name := "equals", desc := "(Ljava/lang/Object;)Z", sig := { parameters := [(.object "java/lang/Object")], returnType := some .boolean }, accessFlags := 1, code := some k2c1 }
/-- com/example/slackwise/slackwise/replay/JobOutcome -/
def k2 : Class := { plain "com/example/slackwise/slackwise/replay/JobOutcome" (some 0) with
  accessFlags := 49
  interfaces := #[]
  cf := some (fileOf pool2 8 #[] #[{ accessFlags := 1, nameIndex := 5, descriptorIndex := 44, attributes := #[] }, { accessFlags := 1, nameIndex := 49, descriptorIndex := 50, attributes := #[] }] 49 2 #[] #[{ accessFlags := 18, nameIndex := 11, descriptorIndex := 12, attributes := #[] }, { accessFlags := 18, nameIndex := 15, descriptorIndex := 16, attributes := #[] }, { accessFlags := 18, nameIndex := 19, descriptorIndex := 12, attributes := #[] }, { accessFlags := 18, nameIndex := 22, descriptorIndex := 12, attributes := #[] }])
  fields := #[{ name := "milliVcores", type := .long, accessFlags := 18, slot := 0, constantValue := 0 }, { name := "completed", type := .boolean, accessFlags := 18, slot := 1, constantValue := 0 }, { name := "waitS", type := .long, accessFlags := 18, slot := 2, constantValue := 0 }, { name := "completionS", type := .long, accessFlags := 18, slot := 3, constantValue := 0 }]
  methods := #[k2m0, k2m1]
  instanceTypes := #[.long, .boolean, .long, .long]
  staticTypes := #[]
  resolved := Array.replicate 73 none
  statics := none }

def pool3 : Array CpInfo := pool [(1, .class_ 2), (0, u "java/io/Serializable"), (0, .class_ 4), (0, u "java/lang/Object")] 2

/-- java/io/Serializable -/
def k3 : Class := { plain "java/io/Serializable" (some 0) with
  accessFlags := 1537
  interfaces := #[]
  cf := some (fileOf pool3 1 #[] #[] 1537 3 #[] #[])
  fields := #[]
  methods := #[]
  instanceTypes := #[]
  staticTypes := #[]
  resolved := Array.replicate 7 none
  statics := none }

def pool4 : Array CpInfo := pool [(1, .methodref 2 3), (0, .class_ 4), (0, .nameAndType 5 6), (0, u "java/lang/Object"), (0, u "<init>"), (0, u "()V"), (1, .class_ 10), (1, u "java/lang/Number"), (2, .class_ 14), (0, u "java/io/Serializable"), (0, u "serialVersionUID"), (0, u "J")] 20

def k4c0 : Code := { maxStack := 1, maxLocals := 1, code := jdk_18_method_1_code, exceptionTable := #[], attributes := #[] }
def k4m0 : Method := { name := "<init>", desc := "()V", sig := { parameters := [], returnType := none }, accessFlags := 1, code := some k4c0 }
/-- java/lang/Number -/
def k4 : Class := { plain "java/lang/Number" (some 0) with
  accessFlags := 1057
  interfaces := #[3]
  cf := some (fileOf pool4 8 #[] #[{ accessFlags := 1, nameIndex := 5, descriptorIndex := 6, attributes := #[] }] 1057 2 #[13] #[{ accessFlags := 26, nameIndex := 15, descriptorIndex := 16, attributes := #[] }])
  fields := #[{ name := "serialVersionUID", type := .long, accessFlags := 26, slot := 0, constantValue := 0 }]
  methods := #[k4m0]
  instanceTypes := #[]
  staticTypes := #[.long]
  resolved := Array.replicate 37 none
  statics := none }

def pool5 : Array CpInfo := pool [(1, .class_ 2), (0, u "java/lang/Comparable"), (0, .class_ 4), (0, u "java/lang/Object")] 7

/-- java/lang/Comparable -/
def k5 : Class := { plain "java/lang/Comparable" (some 0) with
  accessFlags := 1537
  interfaces := #[]
  cf := some (fileOf pool5 1 #[] #[] 1537 3 #[] #[])
  fields := #[]
  methods := #[]
  instanceTypes := #[]
  staticTypes := #[]
  resolved := Array.replicate 12 none
  statics := none }

def pool6 : Array CpInfo := pool [(1, .class_ 2), (0, u "java/lang/constant/Constable"), (0, .class_ 4), (0, u "java/lang/Object")] 6

/-- java/lang/constant/Constable -/
def k6 : Class := { plain "java/lang/constant/Constable" (some 0) with
  accessFlags := 1537
  interfaces := #[]
  cf := some (fileOf pool6 1 #[] #[] 1537 3 #[] #[])
  fields := #[]
  methods := #[]
  instanceTypes := #[]
  staticTypes := #[]
  resolved := Array.replicate 11 none
  statics := none }

def pool7 : Array CpInfo := pool [(1, .class_ 2), (0, u "java/lang/constant/ConstantDesc"), (0, .class_ 4), (0, u "java/lang/Object")] 32

/-- java/lang/constant/ConstantDesc -/
def k7 : Class := { plain "java/lang/constant/ConstantDesc" (some 0) with
  accessFlags := 1537
  interfaces := #[]
  cf := some (fileOf pool7 1 #[] #[] 1537 3 #[] #[])
  fields := #[]
  methods := #[]
  instanceTypes := #[]
  staticTypes := #[]
  resolved := Array.replicate 37 none
  statics := none }

def pool8 : Array CpInfo := pool [(1, .class_ 2), (0, u "java/lang/Long"), (55, .nameAndType 59 60), (0, u "<init>"), (0, u "()V"), (24, u "valueOf"), (143, u "(J)Ljava/lang/Long;"), (0, .long 18446744073709551488), (1, .long 127), (1, .fieldref 235 236), (0, .class_ 237), (0, .nameAndType 238 239), (0, u "java/lang/Long$LongCache"), (0, u "cache"), (0, u "[Ljava/lang/Long;"), (0, .methodref 1 241), (0, .nameAndType 59 242), (0, u "(J)V"), (27, .methodref 271 58), (0, .class_ 272), (0, u "java/lang/Number"), (0, .fieldref 1 274), (0, .nameAndType 275 276), (0, u "value"), (0, u "J"), (84, u "TYPE"), (0, u "Ljava/lang/Class;"), (0, .class_ 364), (0, u "java/lang/Comparable"), (0, .class_ 366), (0, u "java/lang/constant/Constable"), (0, .class_ 368), (0, u "java/lang/constant/ConstantDesc"), (0, u "MIN_VALUE"), (1, u "MAX_VALUE"), (4, u "SIZE"), (0, u "I"), (1, u "BYTES"), (1, u "serialVersionUID")] 142

def k8c0 : Code := { maxStack := 4, maxLocals := 3, code := jdk_35_method_24_code, exceptionTable := #[], attributes := #[] }
def k8m0 : Method := { name := "valueOf", desc := "(J)Ljava/lang/Long;", sig := { parameters := [.long], returnType := some (.object "java/lang/Long") }, accessFlags := 9, code := some k8c0 }
def k8c1 : Code := { maxStack := 3, maxLocals := 3, code := jdk_35_method_26_code, exceptionTable := #[], attributes := #[] }
def k8m1 : Method := { name := "<init>", desc := "(J)V", sig := { parameters := [.long], returnType := none }, accessFlags := 1, code := some k8c1 }
/-- java/lang/Long -/
def k8 : Class := { plain "java/lang/Long" (some 4) with
  accessFlags := 49
  interfaces := #[5, 6, 7]
  cf := some (fileOf pool8 1 #[.nestMembers #[235]] #[{ accessFlags := 9, nameIndex := 85, descriptorIndex := 229, attributes := #[] }, { accessFlags := 1, nameIndex := 59, descriptorIndex := 242, attributes := #[] }] 49 271 #[363, 365, 367] #[{ accessFlags := 25, nameIndex := 369, descriptorIndex := 276, attributes := #[] }, { accessFlags := 25, nameIndex := 371, descriptorIndex := 276, attributes := #[] }, { accessFlags := 25, nameIndex := 361, descriptorIndex := 362, attributes := #[] }, { accessFlags := 18, nameIndex := 275, descriptorIndex := 276, attributes := #[] }, { accessFlags := 25, nameIndex := 376, descriptorIndex := 377, attributes := #[] }, { accessFlags := 25, nameIndex := 379, descriptorIndex := 377, attributes := #[] }, { accessFlags := 26, nameIndex := 381, descriptorIndex := 276, attributes := #[] }])
  fields := #[{ name := "MIN_VALUE", type := .long, accessFlags := 25, slot := 0, constantValue := 0 }, { name := "MAX_VALUE", type := .long, accessFlags := 25, slot := 1, constantValue := 0 }, { name := "TYPE", type := (.object "java/lang/Class"), accessFlags := 25, slot := 2, constantValue := 0 }, { name := "value", type := .long, accessFlags := 18, slot := 0, constantValue := 0 }, { name := "SIZE", type := .int, accessFlags := 25, slot := 3, constantValue := 0 }, { name := "BYTES", type := .int, accessFlags := 25, slot := 4, constantValue := 0 }, { name := "serialVersionUID", type := .long, accessFlags := 26, slot := 5, constantValue := 0 }]
  methods := #[k8m0, k8m1]
  instanceTypes := #[.long]
  staticTypes := #[.long, .long, (.object "java/lang/Class"), .int, .int, .long]
  resolved := Array.replicate 524 none
  statics := none }

def pool9 : Array CpInfo := pool [(2, .class_ 4), (1, u "java/lang/Object"), (0, u "<init>"), (0, u "()V"), (0, .class_ 8), (0, u "java/lang/Long"), (7, .class_ 18), (1, u "java/lang/Long$LongCache"), (0, u "$assertionsDisabled"), (0, u "Z"), (8, u "archivedCache"), (0, u "[Ljava/lang/Long;"), (7, u "cache")] 24

def k9m0 : Method := { name := "<init>", desc := "()V", sig := { parameters := [], returnType := none }, accessFlags := 2, code := none }
/-- java/lang/Long$LongCache -/
def k9 : Class := { plain "java/lang/Long$LongCache" (some 0) with
  accessFlags := 48
  interfaces := #[]
  cf := some (fileOf pool9 16 #[.nestHost 7] #[{ accessFlags := 2, nameIndex := 5, descriptorIndex := 6, attributes := #[] }] 48 2 #[] #[{ accessFlags := 24, nameIndex := 38, descriptorIndex := 30, attributes := #[] }, { accessFlags := 8, nameIndex := 29, descriptorIndex := 30, attributes := #[] }, { accessFlags := 4120, nameIndex := 19, descriptorIndex := 20, attributes := #[] }])
  fields := #[{ name := "cache", type := (.array (.object "java/lang/Long")), accessFlags := 24, slot := 0, constantValue := 0 }, { name := "archivedCache", type := (.array (.object "java/lang/Long")), accessFlags := 8, slot := 1, constantValue := 0 }, { name := "$assertionsDisabled", type := .boolean, accessFlags := 4120, slot := 2, constantValue := 0 }]
  methods := #[k9m0]
  instanceTypes := #[]
  staticTypes := #[(.array (.object "java/lang/Long")), (.array (.object "java/lang/Long")), .boolean]
  resolved := Array.replicate 63 none
  statics := some 0 }

def pool10 : Array CpInfo := pool [(1, u "java/lang/Cloneable"), (0, .class_ 1), (0, u "java/lang/Object"), (0, .class_ 3)] 3

/-- java/lang/Cloneable -/
def k10 : Class := { plain "java/lang/Cloneable" (some 0) with
  accessFlags := 1537
  interfaces := #[]
  cf := some (fileOf pool10 2 #[] #[] 1537 4 #[] #[])
  fields := #[]
  methods := #[]
  instanceTypes := #[]
  staticTypes := #[]
  resolved := Array.replicate 8 none
  statics := none }

/-- the primitive byte -/
def k11 : Class := { plain "byte" none with kind := .primitive 'B', accessFlags := 0x411 }
/-- [B -/
def k12 : Class := { plain "[B" (some 0) with kind := .array 11 .byte, interfaces := #[10, 3], accessFlags := 1041 }

/-- the primitive int -/
def k13 : Class := { plain "int" none with kind := .primitive 'I', accessFlags := 0x411 }
/-- [I -/
def k14 : Class := { plain "[I" (some 0) with kind := .array 13 .int, interfaces := #[10, 3], accessFlags := 1041 }

/-- [Ljava/lang/Long; -/
def k15 : Class := { plain "[Ljava/lang/Long;" (some 0) with kind := .array 8 (.object "java/lang/Long"), interfaces := #[10, 3], accessFlags := 1041 }

def heap : Heap := #[{ cls := 9, slots := #[.ref 1, .null, .int 0], vm := .statics 9 },
  { cls := 15, slots := #[.ref 2, .ref 3, .ref 4, .ref 5, .ref 6, .ref 7, .ref 8, .ref 9, .ref 10, .ref 11, .ref 12, .ref 13, .ref 14, .ref 15, .ref 16, .ref 17, .ref 18, .ref 19, .ref 20, .ref 21, .ref 22, .ref 23, .ref 24, .ref 25, .ref 26, .ref 27, .ref 28, .ref 29, .ref 30, .ref 31, .ref 32, .ref 33, .ref 34, .ref 35, .ref 36, .ref 37, .ref 38, .ref 39, .ref 40, .ref 41, .ref 42, .ref 43, .ref 44, .ref 45, .ref 46, .ref 47, .ref 48, .ref 49, .ref 50, .ref 51, .ref 52, .ref 53, .ref 54, .ref 55, .ref 56, .ref 57, .ref 58, .ref 59, .ref 60, .ref 61, .ref 62, .ref 63, .ref 64, .ref 65, .ref 66, .ref 67, .ref 68, .ref 69, .ref 70, .ref 71, .ref 72, .ref 73, .ref 74, .ref 75, .ref 76, .ref 77, .ref 78, .ref 79, .ref 80, .ref 81, .ref 82, .ref 83, .ref 84, .ref 85, .ref 86, .ref 87, .ref 88, .ref 89, .ref 90, .ref 91, .ref 92, .ref 93, .ref 94, .ref 95, .ref 96, .ref 97, .ref 98, .ref 99, .ref 100, .ref 101, .ref 102, .ref 103, .ref 104, .ref 105, .ref 106, .ref 107, .ref 108, .ref 109, .ref 110, .ref 111, .ref 112, .ref 113, .ref 114, .ref 115, .ref 116, .ref 117, .ref 118, .ref 119, .ref 120, .ref 121, .ref 122, .ref 123, .ref 124, .ref 125, .ref 126, .ref 127, .ref 128, .ref 129, .ref 130, .ref 131, .ref 132, .ref 133, .ref 134, .ref 135, .ref 136, .ref 137, .ref 138, .ref 139, .ref 140, .ref 141, .ref 142, .ref 143, .ref 144, .ref 145, .ref 146, .ref 147, .ref 148, .ref 149, .ref 150, .ref 151, .ref 152, .ref 153, .ref 154, .ref 155, .ref 156, .ref 157, .ref 158, .ref 159, .ref 160, .ref 161, .ref 162, .ref 163, .ref 164, .ref 165, .ref 166, .ref 167, .ref 168, .ref 169, .ref 170, .ref 171, .ref 172, .ref 173, .ref 174, .ref 175, .ref 176, .ref 177, .ref 178, .ref 179, .ref 180, .ref 181, .ref 182, .ref 183, .ref 184, .ref 185, .ref 186, .ref 187, .ref 188, .ref 189, .ref 190, .ref 191, .ref 192, .ref 193, .ref 194, .ref 195, .ref 196, .ref 197, .ref 198, .ref 199, .ref 200, .ref 201, .ref 202, .ref 203, .ref 204, .ref 205, .ref 206, .ref 207, .ref 208, .ref 209, .ref 210, .ref 211, .ref 212, .ref 213, .ref 214, .ref 215, .ref 216, .ref 217, .ref 218, .ref 219, .ref 220, .ref 221, .ref 222, .ref 223, .ref 224, .ref 225, .ref 226, .ref 227, .ref 228, .ref 229, .ref 230, .ref 231, .ref 232, .ref 233, .ref 234, .ref 235, .ref 236, .ref 237, .ref 238, .ref 239, .ref 240, .ref 241, .ref 242, .ref 243, .ref 244, .ref 245, .ref 246, .ref 247, .ref 248, .ref 249, .ref 250, .ref 251, .ref 252, .ref 253, .ref 254, .ref 255, .ref 256, .ref 257], vm := .none },
  { cls := 8, slots := #[.long (-128)], vm := .none },
  { cls := 8, slots := #[.long (-127)], vm := .none },
  { cls := 8, slots := #[.long (-126)], vm := .none },
  { cls := 8, slots := #[.long (-125)], vm := .none },
  { cls := 8, slots := #[.long (-124)], vm := .none },
  { cls := 8, slots := #[.long (-123)], vm := .none },
  { cls := 8, slots := #[.long (-122)], vm := .none },
  { cls := 8, slots := #[.long (-121)], vm := .none },
  { cls := 8, slots := #[.long (-120)], vm := .none },
  { cls := 8, slots := #[.long (-119)], vm := .none },
  { cls := 8, slots := #[.long (-118)], vm := .none },
  { cls := 8, slots := #[.long (-117)], vm := .none },
  { cls := 8, slots := #[.long (-116)], vm := .none },
  { cls := 8, slots := #[.long (-115)], vm := .none },
  { cls := 8, slots := #[.long (-114)], vm := .none },
  { cls := 8, slots := #[.long (-113)], vm := .none },
  { cls := 8, slots := #[.long (-112)], vm := .none },
  { cls := 8, slots := #[.long (-111)], vm := .none },
  { cls := 8, slots := #[.long (-110)], vm := .none },
  { cls := 8, slots := #[.long (-109)], vm := .none },
  { cls := 8, slots := #[.long (-108)], vm := .none },
  { cls := 8, slots := #[.long (-107)], vm := .none },
  { cls := 8, slots := #[.long (-106)], vm := .none },
  { cls := 8, slots := #[.long (-105)], vm := .none },
  { cls := 8, slots := #[.long (-104)], vm := .none },
  { cls := 8, slots := #[.long (-103)], vm := .none },
  { cls := 8, slots := #[.long (-102)], vm := .none },
  { cls := 8, slots := #[.long (-101)], vm := .none },
  { cls := 8, slots := #[.long (-100)], vm := .none },
  { cls := 8, slots := #[.long (-99)], vm := .none },
  { cls := 8, slots := #[.long (-98)], vm := .none },
  { cls := 8, slots := #[.long (-97)], vm := .none },
  { cls := 8, slots := #[.long (-96)], vm := .none },
  { cls := 8, slots := #[.long (-95)], vm := .none },
  { cls := 8, slots := #[.long (-94)], vm := .none },
  { cls := 8, slots := #[.long (-93)], vm := .none },
  { cls := 8, slots := #[.long (-92)], vm := .none },
  { cls := 8, slots := #[.long (-91)], vm := .none },
  { cls := 8, slots := #[.long (-90)], vm := .none },
  { cls := 8, slots := #[.long (-89)], vm := .none },
  { cls := 8, slots := #[.long (-88)], vm := .none },
  { cls := 8, slots := #[.long (-87)], vm := .none },
  { cls := 8, slots := #[.long (-86)], vm := .none },
  { cls := 8, slots := #[.long (-85)], vm := .none },
  { cls := 8, slots := #[.long (-84)], vm := .none },
  { cls := 8, slots := #[.long (-83)], vm := .none },
  { cls := 8, slots := #[.long (-82)], vm := .none },
  { cls := 8, slots := #[.long (-81)], vm := .none },
  { cls := 8, slots := #[.long (-80)], vm := .none },
  { cls := 8, slots := #[.long (-79)], vm := .none },
  { cls := 8, slots := #[.long (-78)], vm := .none },
  { cls := 8, slots := #[.long (-77)], vm := .none },
  { cls := 8, slots := #[.long (-76)], vm := .none },
  { cls := 8, slots := #[.long (-75)], vm := .none },
  { cls := 8, slots := #[.long (-74)], vm := .none },
  { cls := 8, slots := #[.long (-73)], vm := .none },
  { cls := 8, slots := #[.long (-72)], vm := .none },
  { cls := 8, slots := #[.long (-71)], vm := .none },
  { cls := 8, slots := #[.long (-70)], vm := .none },
  { cls := 8, slots := #[.long (-69)], vm := .none },
  { cls := 8, slots := #[.long (-68)], vm := .none },
  { cls := 8, slots := #[.long (-67)], vm := .none },
  { cls := 8, slots := #[.long (-66)], vm := .none },
  { cls := 8, slots := #[.long (-65)], vm := .none },
  { cls := 8, slots := #[.long (-64)], vm := .none },
  { cls := 8, slots := #[.long (-63)], vm := .none },
  { cls := 8, slots := #[.long (-62)], vm := .none },
  { cls := 8, slots := #[.long (-61)], vm := .none },
  { cls := 8, slots := #[.long (-60)], vm := .none },
  { cls := 8, slots := #[.long (-59)], vm := .none },
  { cls := 8, slots := #[.long (-58)], vm := .none },
  { cls := 8, slots := #[.long (-57)], vm := .none },
  { cls := 8, slots := #[.long (-56)], vm := .none },
  { cls := 8, slots := #[.long (-55)], vm := .none },
  { cls := 8, slots := #[.long (-54)], vm := .none },
  { cls := 8, slots := #[.long (-53)], vm := .none },
  { cls := 8, slots := #[.long (-52)], vm := .none },
  { cls := 8, slots := #[.long (-51)], vm := .none },
  { cls := 8, slots := #[.long (-50)], vm := .none },
  { cls := 8, slots := #[.long (-49)], vm := .none },
  { cls := 8, slots := #[.long (-48)], vm := .none },
  { cls := 8, slots := #[.long (-47)], vm := .none },
  { cls := 8, slots := #[.long (-46)], vm := .none },
  { cls := 8, slots := #[.long (-45)], vm := .none },
  { cls := 8, slots := #[.long (-44)], vm := .none },
  { cls := 8, slots := #[.long (-43)], vm := .none },
  { cls := 8, slots := #[.long (-42)], vm := .none },
  { cls := 8, slots := #[.long (-41)], vm := .none },
  { cls := 8, slots := #[.long (-40)], vm := .none },
  { cls := 8, slots := #[.long (-39)], vm := .none },
  { cls := 8, slots := #[.long (-38)], vm := .none },
  { cls := 8, slots := #[.long (-37)], vm := .none },
  { cls := 8, slots := #[.long (-36)], vm := .none },
  { cls := 8, slots := #[.long (-35)], vm := .none },
  { cls := 8, slots := #[.long (-34)], vm := .none },
  { cls := 8, slots := #[.long (-33)], vm := .none },
  { cls := 8, slots := #[.long (-32)], vm := .none },
  { cls := 8, slots := #[.long (-31)], vm := .none },
  { cls := 8, slots := #[.long (-30)], vm := .none },
  { cls := 8, slots := #[.long (-29)], vm := .none },
  { cls := 8, slots := #[.long (-28)], vm := .none },
  { cls := 8, slots := #[.long (-27)], vm := .none },
  { cls := 8, slots := #[.long (-26)], vm := .none },
  { cls := 8, slots := #[.long (-25)], vm := .none },
  { cls := 8, slots := #[.long (-24)], vm := .none },
  { cls := 8, slots := #[.long (-23)], vm := .none },
  { cls := 8, slots := #[.long (-22)], vm := .none },
  { cls := 8, slots := #[.long (-21)], vm := .none },
  { cls := 8, slots := #[.long (-20)], vm := .none },
  { cls := 8, slots := #[.long (-19)], vm := .none },
  { cls := 8, slots := #[.long (-18)], vm := .none },
  { cls := 8, slots := #[.long (-17)], vm := .none },
  { cls := 8, slots := #[.long (-16)], vm := .none },
  { cls := 8, slots := #[.long (-15)], vm := .none },
  { cls := 8, slots := #[.long (-14)], vm := .none },
  { cls := 8, slots := #[.long (-13)], vm := .none },
  { cls := 8, slots := #[.long (-12)], vm := .none },
  { cls := 8, slots := #[.long (-11)], vm := .none },
  { cls := 8, slots := #[.long (-10)], vm := .none },
  { cls := 8, slots := #[.long (-9)], vm := .none },
  { cls := 8, slots := #[.long (-8)], vm := .none },
  { cls := 8, slots := #[.long (-7)], vm := .none },
  { cls := 8, slots := #[.long (-6)], vm := .none },
  { cls := 8, slots := #[.long (-5)], vm := .none },
  { cls := 8, slots := #[.long (-4)], vm := .none },
  { cls := 8, slots := #[.long (-3)], vm := .none },
  { cls := 8, slots := #[.long (-2)], vm := .none },
  { cls := 8, slots := #[.long (-1)], vm := .none },
  { cls := 8, slots := #[.long (0)], vm := .none },
  { cls := 8, slots := #[.long (1)], vm := .none },
  { cls := 8, slots := #[.long (2)], vm := .none },
  { cls := 8, slots := #[.long (3)], vm := .none },
  { cls := 8, slots := #[.long (4)], vm := .none },
  { cls := 8, slots := #[.long (5)], vm := .none },
  { cls := 8, slots := #[.long (6)], vm := .none },
  { cls := 8, slots := #[.long (7)], vm := .none },
  { cls := 8, slots := #[.long (8)], vm := .none },
  { cls := 8, slots := #[.long (9)], vm := .none },
  { cls := 8, slots := #[.long (10)], vm := .none },
  { cls := 8, slots := #[.long (11)], vm := .none },
  { cls := 8, slots := #[.long (12)], vm := .none },
  { cls := 8, slots := #[.long (13)], vm := .none },
  { cls := 8, slots := #[.long (14)], vm := .none },
  { cls := 8, slots := #[.long (15)], vm := .none },
  { cls := 8, slots := #[.long (16)], vm := .none },
  { cls := 8, slots := #[.long (17)], vm := .none },
  { cls := 8, slots := #[.long (18)], vm := .none },
  { cls := 8, slots := #[.long (19)], vm := .none },
  { cls := 8, slots := #[.long (20)], vm := .none },
  { cls := 8, slots := #[.long (21)], vm := .none },
  { cls := 8, slots := #[.long (22)], vm := .none },
  { cls := 8, slots := #[.long (23)], vm := .none },
  { cls := 8, slots := #[.long (24)], vm := .none },
  { cls := 8, slots := #[.long (25)], vm := .none },
  { cls := 8, slots := #[.long (26)], vm := .none },
  { cls := 8, slots := #[.long (27)], vm := .none },
  { cls := 8, slots := #[.long (28)], vm := .none },
  { cls := 8, slots := #[.long (29)], vm := .none },
  { cls := 8, slots := #[.long (30)], vm := .none },
  { cls := 8, slots := #[.long (31)], vm := .none },
  { cls := 8, slots := #[.long (32)], vm := .none },
  { cls := 8, slots := #[.long (33)], vm := .none },
  { cls := 8, slots := #[.long (34)], vm := .none },
  { cls := 8, slots := #[.long (35)], vm := .none },
  { cls := 8, slots := #[.long (36)], vm := .none },
  { cls := 8, slots := #[.long (37)], vm := .none },
  { cls := 8, slots := #[.long (38)], vm := .none },
  { cls := 8, slots := #[.long (39)], vm := .none },
  { cls := 8, slots := #[.long (40)], vm := .none },
  { cls := 8, slots := #[.long (41)], vm := .none },
  { cls := 8, slots := #[.long (42)], vm := .none },
  { cls := 8, slots := #[.long (43)], vm := .none },
  { cls := 8, slots := #[.long (44)], vm := .none },
  { cls := 8, slots := #[.long (45)], vm := .none },
  { cls := 8, slots := #[.long (46)], vm := .none },
  { cls := 8, slots := #[.long (47)], vm := .none },
  { cls := 8, slots := #[.long (48)], vm := .none },
  { cls := 8, slots := #[.long (49)], vm := .none },
  { cls := 8, slots := #[.long (50)], vm := .none },
  { cls := 8, slots := #[.long (51)], vm := .none },
  { cls := 8, slots := #[.long (52)], vm := .none },
  { cls := 8, slots := #[.long (53)], vm := .none },
  { cls := 8, slots := #[.long (54)], vm := .none },
  { cls := 8, slots := #[.long (55)], vm := .none },
  { cls := 8, slots := #[.long (56)], vm := .none },
  { cls := 8, slots := #[.long (57)], vm := .none },
  { cls := 8, slots := #[.long (58)], vm := .none },
  { cls := 8, slots := #[.long (59)], vm := .none },
  { cls := 8, slots := #[.long (60)], vm := .none },
  { cls := 8, slots := #[.long (61)], vm := .none },
  { cls := 8, slots := #[.long (62)], vm := .none },
  { cls := 8, slots := #[.long (63)], vm := .none },
  { cls := 8, slots := #[.long (64)], vm := .none },
  { cls := 8, slots := #[.long (65)], vm := .none },
  { cls := 8, slots := #[.long (66)], vm := .none },
  { cls := 8, slots := #[.long (67)], vm := .none },
  { cls := 8, slots := #[.long (68)], vm := .none },
  { cls := 8, slots := #[.long (69)], vm := .none },
  { cls := 8, slots := #[.long (70)], vm := .none },
  { cls := 8, slots := #[.long (71)], vm := .none },
  { cls := 8, slots := #[.long (72)], vm := .none },
  { cls := 8, slots := #[.long (73)], vm := .none },
  { cls := 8, slots := #[.long (74)], vm := .none },
  { cls := 8, slots := #[.long (75)], vm := .none },
  { cls := 8, slots := #[.long (76)], vm := .none },
  { cls := 8, slots := #[.long (77)], vm := .none },
  { cls := 8, slots := #[.long (78)], vm := .none },
  { cls := 8, slots := #[.long (79)], vm := .none },
  { cls := 8, slots := #[.long (80)], vm := .none },
  { cls := 8, slots := #[.long (81)], vm := .none },
  { cls := 8, slots := #[.long (82)], vm := .none },
  { cls := 8, slots := #[.long (83)], vm := .none },
  { cls := 8, slots := #[.long (84)], vm := .none },
  { cls := 8, slots := #[.long (85)], vm := .none },
  { cls := 8, slots := #[.long (86)], vm := .none },
  { cls := 8, slots := #[.long (87)], vm := .none },
  { cls := 8, slots := #[.long (88)], vm := .none },
  { cls := 8, slots := #[.long (89)], vm := .none },
  { cls := 8, slots := #[.long (90)], vm := .none },
  { cls := 8, slots := #[.long (91)], vm := .none },
  { cls := 8, slots := #[.long (92)], vm := .none },
  { cls := 8, slots := #[.long (93)], vm := .none },
  { cls := 8, slots := #[.long (94)], vm := .none },
  { cls := 8, slots := #[.long (95)], vm := .none },
  { cls := 8, slots := #[.long (96)], vm := .none },
  { cls := 8, slots := #[.long (97)], vm := .none },
  { cls := 8, slots := #[.long (98)], vm := .none },
  { cls := 8, slots := #[.long (99)], vm := .none },
  { cls := 8, slots := #[.long (100)], vm := .none },
  { cls := 8, slots := #[.long (101)], vm := .none },
  { cls := 8, slots := #[.long (102)], vm := .none },
  { cls := 8, slots := #[.long (103)], vm := .none },
  { cls := 8, slots := #[.long (104)], vm := .none },
  { cls := 8, slots := #[.long (105)], vm := .none },
  { cls := 8, slots := #[.long (106)], vm := .none },
  { cls := 8, slots := #[.long (107)], vm := .none },
  { cls := 8, slots := #[.long (108)], vm := .none },
  { cls := 8, slots := #[.long (109)], vm := .none },
  { cls := 8, slots := #[.long (110)], vm := .none },
  { cls := 8, slots := #[.long (111)], vm := .none },
  { cls := 8, slots := #[.long (112)], vm := .none },
  { cls := 8, slots := #[.long (113)], vm := .none },
  { cls := 8, slots := #[.long (114)], vm := .none },
  { cls := 8, slots := #[.long (115)], vm := .none },
  { cls := 8, slots := #[.long (116)], vm := .none },
  { cls := 8, slots := #[.long (117)], vm := .none },
  { cls := 8, slots := #[.long (118)], vm := .none },
  { cls := 8, slots := #[.long (119)], vm := .none },
  { cls := 8, slots := #[.long (120)], vm := .none },
  { cls := 8, slots := #[.long (121)], vm := .none },
  { cls := 8, slots := #[.long (122)], vm := .none },
  { cls := 8, slots := #[.long (123)], vm := .none },
  { cls := 8, slots := #[.long (124)], vm := .none },
  { cls := 8, slots := #[.long (125)], vm := .none },
  { cls := 8, slots := #[.long (126)], vm := .none },
  { cls := 8, slots := #[.long (127)], vm := .none }]
def classes : Array Class := #[k0, k1, k2, k3, k4, k5, k6, k7, k8, k9, k10, k11, k12, k13, k14, k15]
def interned : List (Array UInt16 × Addr) := []
def slotsUsed : Nat := 515
def theMethod : MethodId := ⟨1, 1⟩
def args0 : Array Value := #[.long 9, .long 7, .long 7, .long 7, .int 7]
def aboutOver (below : List Frame) : State where
  vm := { classes := classes, interned := interned.toArray }
  heap := heap
  slotsUsed := slotsUsed
  threads := #[{ frames := .invoking theMethod args0 :: below }]
def below0 : List Frame := [.native { method := ⟨0, 0⟩, args := #[] }]
def about1 : State := aboutOver below0
def p0 : Program := .bare "" "" ""
def e0 : Env := launch0.env 0 0 0
theorem w_frames : about1.frames = Frame.invoking theMethod args0 :: below0 := rfl
set_option maxRecDepth 65536 in
theorem w_args : argsFit about1.vm theMethod args0 = true := by decide +kernel
set_option maxRecDepth 65536 in
theorem w_heap : heapFits about1 = true := by decide +kernel
set_option maxRecDepth 65536 in
theorem w_runnable : about1.curStatus? = some .runnable := by decide +kernel
set_option maxRecDepth 65536 in
theorem w_alone : about1.alone = true := by decide +kernel
set_option maxRecDepth 65536 in
theorem w_named : about1.methodNamed? x = some theMethod := by decide +kernel
set_option maxRecDepth 65536 in
theorem w_hears : about1.hears theMethod below0 = true := by decide +kernel
set_option maxRecDepth 65536 in
theorem w_ripe : about1.ripe theMethod args0 below0 = true := by decide +kernel
theorem w_running : about1.status = .running := rfl
set_option maxRecDepth 65536 in
theorem w_room : about1.hasRoom e0.platform room_1 = true :=
  launch0.hasRoom_least _ room_1 (by decide +kernel) (by decide +kernel) (by decide +kernel) (by decide +kernel) (by decide +kernel) (by decide +kernel)
theorem allAtoms_all (ts : List Jvm.Cond) (a : Array Jvm.Value) (st : Jvm.State) : (allAtoms ts).before a st = ts.all (fun c => c.before a st) := by
  induction ts with
  | nil => rfl
  | cons c t ih =>
    show (Jvm.Cond.and c (allAtoms t)).before a st = _
    rw [Jvm.Cond.before_and, ih, List.all_cons]
def words1 : List Jvm.Cond := Jvm.Cond.code x code maxLocals ret :: tables_1
/-- a 'code' word, met by the world's own term for the bytes: nothing is compared byte by byte -/
theorem code_word {y : MethodName} {bytes : ByteArray} {mx : Nat} {rt : Option FieldType} {a : Array Value} {s : State} {m : MethodId} {meth : Method} {c : Code} (h1 : s.methodNamed? y = some m) (h2 : s.vm.method? m = some meth) (h3 : meth.code = some c) (h4 : c.code = bytes)
    (h5 : (c.maxLocals == mx && c.exceptionTable.isEmpty && decide (c.maxStack ≤ mostOperands) && decide (meth.sig.returnType = rt) && !meth.locks && decide (parseMethodDescriptor y.desc = some meth.sig)) = true) : (Jvm.Cond.code y bytes mx rt).before a s = true := by
  simp only [Bool.and_eq_true, beq_iff_eq, Bool.not_eq_true', decide_eq_true_eq] at h5
  obtain ⟨⟨⟨⟨⟨g1, g2⟩, g3⟩, g4⟩, g5⟩, g6⟩ := h5
  simp [Cond.before, Cond.holds, Cond.value, h1, h2, h3, h4, g1, g2, g3, g4, g5, g6]
def isCode : Jvm.Cond → Bool
  | .code _ _ _ _ => true
  | _ => false
theorem all_split {L : List Jvm.Cond} {P : Jvm.Cond → Bool} (h1 : L.all (fun c => isCode c || P c) = true) (h2 : ∀ c ∈ L.filter isCode, P c = true) : L.all P = true := by
  refine List.all_eq_true.mpr fun c hc => ?_
  have h := List.all_eq_true.mp h1 c hc
  rcases Bool.eq_false_or_eq_true (isCode c) with hi | hi
  · exact h2 c (List.mem_filter.mpr ⟨hc, hi⟩)
  · simpa [hi] using h
set_option maxRecDepth 65536 in
theorem w_c0 : (Jvm.Cond.code x code maxLocals ret).before args0 about1 = true := code_word (m := ⟨1, 1⟩) (meth := k1m1) (c := k1c1) (by decide +kernel) rfl rfl rfl (by decide +kernel)
set_option maxRecDepth 65536 in
theorem w_c1 : (Jvm.Cond.code ({ cls := "com/example/slackwise/slackwise/replay/JobOutcome", name := "<init>", desc := "(JZJJ)V" } : Jvm.MethodName) prog_94_method_1_code (8 : Nat) (Option.none : Option Jvm.ClassFile.FieldType)).before args0 about1 = true := code_word (m := ⟨2, 0⟩) (meth := k2m0) (c := k2c0) (by decide +kernel) rfl rfl rfl (by decide +kernel)
set_option maxRecDepth 65536 in
theorem w_c2 : (Jvm.Cond.code ({ cls := "java/lang/Object", name := "<init>", desc := "()V" } : Jvm.MethodName) object_method_1_code (1 : Nat) (Option.none : Option Jvm.ClassFile.FieldType)).before args0 about1 = true := code_word (m := ⟨0, 0⟩) (meth := k0m0) (c := k0c0) (by decide +kernel) rfl rfl rfl (by decide +kernel)
set_option maxRecDepth 65536 in
theorem w_c3 : (Jvm.Cond.code ({ cls := "com/example/slackwise/slackwise/replay/JobOutcome", name := "equals", desc := "(Ljava/lang/Object;)Z" } : Jvm.MethodName) prog_94_method_6_code (3 : Nat) (Option.some Jvm.ClassFile.FieldType.boolean)).before args0 about1 = true := code_word (m := ⟨2, 1⟩) (meth := k2m1) (c := k2c1) (by decide +kernel) rfl rfl rfl (by decide +kernel)
set_option maxRecDepth 65536 in
theorem w_c4 : (Jvm.Cond.code ({ cls := "java/lang/Long", name := "valueOf", desc := "(J)Ljava/lang/Long;" } : Jvm.MethodName) jdk_35_method_24_code (3 : Nat) (Option.some (Jvm.ClassFile.FieldType.object "java/lang/Long"))).before args0 about1 = true := code_word (m := ⟨8, 0⟩) (meth := k8m0) (c := k8c0) (by decide +kernel) rfl rfl rfl (by decide +kernel)
set_option maxRecDepth 65536 in
theorem w_c5 : (Jvm.Cond.code ({ cls := "java/lang/Long", name := "<init>", desc := "(J)V" } : Jvm.MethodName) jdk_35_method_26_code (3 : Nat) (Option.none : Option Jvm.ClassFile.FieldType)).before args0 about1 = true := code_word (m := ⟨8, 1⟩) (meth := k8m1) (c := k8c1) (by decide +kernel) rfl rfl rfl (by decide +kernel)
set_option maxRecDepth 65536 in
theorem w_c6 : (Jvm.Cond.code ({ cls := "java/lang/Number", name := "<init>", desc := "()V" } : Jvm.MethodName) jdk_18_method_1_code (1 : Nat) (Option.none : Option Jvm.ClassFile.FieldType)).before args0 about1 = true := code_word (m := ⟨4, 0⟩) (meth := k4m0) (c := k4c0) (by decide +kernel) rfl rfl rfl (by decide +kernel)
def codes1 : List Jvm.Cond := [Jvm.Cond.code x code maxLocals ret, Jvm.Cond.code ({ cls := "com/example/slackwise/slackwise/replay/JobOutcome", name := "<init>", desc := "(JZJJ)V" } : Jvm.MethodName) prog_94_method_1_code (8 : Nat) (Option.none : Option Jvm.ClassFile.FieldType), Jvm.Cond.code ({ cls := "java/lang/Object", name := "<init>", desc := "()V" } : Jvm.MethodName) object_method_1_code (1 : Nat) (Option.none : Option Jvm.ClassFile.FieldType), Jvm.Cond.code ({ cls := "com/example/slackwise/slackwise/replay/JobOutcome", name := "equals", desc := "(Ljava/lang/Object;)Z" } : Jvm.MethodName) prog_94_method_6_code (3 : Nat) (Option.some Jvm.ClassFile.FieldType.boolean), Jvm.Cond.code ({ cls := "java/lang/Long", name := "valueOf", desc := "(J)Ljava/lang/Long;" } : Jvm.MethodName) jdk_35_method_24_code (3 : Nat) (Option.some (Jvm.ClassFile.FieldType.object "java/lang/Long")), Jvm.Cond.code ({ cls := "java/lang/Long", name := "<init>", desc := "(J)V" } : Jvm.MethodName) jdk_35_method_26_code (3 : Nat) (Option.none : Option Jvm.ClassFile.FieldType), Jvm.Cond.code ({ cls := "java/lang/Number", name := "<init>", desc := "()V" } : Jvm.MethodName) jdk_18_method_1_code (1 : Nat) (Option.none : Option Jvm.ClassFile.FieldType)]
set_option maxRecDepth 65536 in
theorem codes_eq : words1.filter isCode = codes1 := rfl
theorem w_codes : ∀ c ∈ words1.filter isCode, c.before args0 about1 = true := by
  rw [codes_eq]
  intro c hc
  simp only [codes1, List.mem_cons, List.not_mem_nil, or_false] at hc
  rcases hc with rfl | rfl | rfl | rfl | rfl | rfl | rfl
  · exact w_c0
  · exact w_c1
  · exact w_c2
  · exact w_c3
  · exact w_c4
  · exact w_c5
  · exact w_c6
set_option maxRecDepth 65536 in
theorem w_t1 : (words1.take 24).all (fun c => isCode c || c.before args0 about1) = true := by decide +kernel
set_option maxRecDepth 65536 in
theorem w_t2 : ((words1.drop 24).take 24).all (fun c => isCode c || c.before args0 about1) = true := by decide +kernel
set_option maxRecDepth 65536 in
theorem w_t3 : ((words1.drop 24).drop 24).all (fun c => isCode c || c.before args0 about1) = true := by decide +kernel
theorem w_tables : (allAtoms (Jvm.Cond.code x code maxLocals ret :: tables_1)).before args0 about1 = true := by
  rw [allAtoms_all]
  show words1.all (fun c => c.before args0 about1) = true
  refine all_split ?_ w_codes
  rw [← List.take_append_drop 24 words1, List.all_append, w_t1, ← List.take_append_drop 24 (words1.drop 24), List.all_append, w_t2, w_t3]
  rfl
set_option maxRecDepth 65536 in
theorem w_rest : rest_1_c.before args0 about1 = true := by decide +kernel
set_option maxRecDepth 65536 in
theorem w_case : (Jvm.Cond.and given_1 narrow_1).before args0 about1 = true := by decide +kernel
theorem w_applies : (headSpec (Jvm.Cond.code x code maxLocals ret :: tables_1) room_1).applies x e0.platform about1 = true :=
  (Spec.applies_iff w_frames).mpr ⟨w_running, w_runnable, w_alone, w_named, w_hears, w_ripe, w_room, w_tables⟩
theorem atStart : AtStart classFile x code maxLocals ret World_1 tables_1 room_1 Calls_1 rest_1 Pre_1 launch0 p0 e0 about1 theMethod args0 below0 :=
  ⟨lists_1, trivial, launch0.admits_env _ _ _, launch0.least_env, fairChoices_fair.cas, fairChoices_fair.clock, w_frames, w_args, w_heap, w_applies, trivial, w_rest, w_case⟩
end start1
theorem witness_1 : WitnessClaimed_1 := ⟨start1.p0, start1.e0, start1.about1, start1.theMethod, start1.args0, start1.below0, start1.atStart⟩
end Jvm.Pilot.@@N@@
