import JvmDerived
import JvmDerived.Pilot.@@N@@Statement
import JvmDerived.Pilot.@@N@@Code
set_option linter.unusedVariables false
set_option linter.unusedSimpArgs false
namespace Jvm.Pilot.@@N@@
open Jvm Jvm.ClassFile Sem Op Lib Jvm.Free Jvm.Stand Jvm.LawKit Jvm.RoadKit Bundle Jvm.Pilot.@@N@@.Jvm.D
def own_f (i j k : Int32) (b x y : Int64) : Int64 := if i = k then (if i = j then b + x else b) + y else (if i = j then b + x else b)
theorem own_f1 (i j k : Int32) (b x y : Int64) : own_f i j k b x y = b + (if i = j then x else 0) + (if i = k then y else 0) := by
  unfold own_f
  split <;> split <;> simp
def own_s (j : Int32) (x : Int64) : Int64 := (if (0 : Int32) = j then x else 0) + (if (1 : Int32) = j then x else 0) + (if (2 : Int32) = j then x else 0) + (if (3 : Int32) = j then x else 0) + (if (4 : Int32) = j then x else 0) + (if (5 : Int32) = j then x else 0) + (if (6 : Int32) = j then x else 0) + (if (7 : Int32) = j then x else 0) + (if (8 : Int32) = j then x else 0)
theorem own_s1 (j : Int32) (x : Int64) (h0 : 0 ≤ j.toInt) (h1 : j.toInt < 9) : own_s j x = x := by
  have h : j = 0 ∨ j = 1 ∨ j = 2 ∨ j = 3 ∨ j = 4 ∨ j = 5 ∨ j = 6 ∨ j = 7 ∨ j = 8 := by
    have e0 : (0 : Int32).toInt = 0 := by decide
    have e1 : (1 : Int32).toInt = 1 := by decide
    have e2 : (2 : Int32).toInt = 2 := by decide
    have e3 : (3 : Int32).toInt = 3 := by decide
    have e4 : (4 : Int32).toInt = 4 := by decide
    have e5 : (5 : Int32).toInt = 5 := by decide
    have e6 : (6 : Int32).toInt = 6 := by decide
    have e7 : (7 : Int32).toInt = 7 := by decide
    have e8 : (8 : Int32).toInt = 8 := by decide
    simp only [← Int32.toInt_inj, e0, e1, e2, e3, e4, e5, e6, e7, e8]
    omega
  rcases h with rfl | rfl | rfl | rfl | rfl | rfl | rfl | rfl | rfl <;> simp [own_s]
theorem own_sum (b a0 a1 a2 a3 a4 a5 a6 a7 a8 c0 c1 c2 c3 c4 c5 c6 c7 c8 x y : Int64) (hx : a0 + a1 + a2 + a3 + a4 + a5 + a6 + a7 + a8 = x) (hy : c0 + c1 + c2 + c3 + c4 + c5 + c6 + c7 + c8 = y) :
    (b + a0 + c0) + (b + a1 + c1) + (b + a2 + c2) + (b + a3 + c3) + (b + a4 + c4) + (b + a5 + c5) + (b + a6 + c6) + (b + a7 + c7) + (b + a8 + c8) = (((9 : Int64) * b) + x) + y := by
  subst hx hy
  grind
theorem own_main (j k : Int32) (b x y : Int64) (h0 : 0 ≤ j.toInt) (h1 : j.toInt < 9) (k0 : 0 ≤ k.toInt) (k1 : k.toInt < 9) :
    own_f 0 j k b x y + own_f 1 j k b x y + own_f 2 j k b x y + own_f 3 j k b x y + own_f 4 j k b x y + own_f 5 j k b x y + own_f 6 j k b x y + own_f 7 j k b x y + own_f 8 j k b x y = (((9 : Int64) * b) + x) + y := by
  simp only [own_f1]
  exact own_sum _ _ _ _ _ _ _ _ _ _ _ _ _ _ _ _ _ _ _ _ _ (own_s1 j x h0 h1) (own_s1 k y k0 k1)
theorem own_j (sel : Int32) : 0 ≤ ((sel &&& (2147483647 : Int32)) % (9 : Int32)).toInt ∧ ((sel &&& (2147483647 : Int32)) % (9 : Int32)).toInt < 9 := by
  have h := c_mask sel 2147483647 31 (by decide) (by decide)
  have g := (c_irem (sel &&& (2147483647 : Int32)) 9 9 (by decide)).1
  omega
theorem own_k (j sel : Int32) (h0 : 0 ≤ j.toInt) (h1 : j.toInt < 9) : 0 ≤ (((j + (1 : Int32)) + (((sel.toUInt32 >>> ((8 : Int32) &&& 31).toUInt32).toInt32) % (8 : Int32))) % (9 : Int32)).toInt ∧ (((j + (1 : Int32)) + (((sel.toUInt32 >>> ((8 : Int32) &&& 31).toUInt32).toInt32) % (8 : Int32))) % (9 : Int32)).toInt < 9 := by
  have h := c_iushr sel 8 8 (by decide) (by decide)
  generalize (sel.toUInt32 >>> ((8 : Int32) &&& 31).toUInt32).toInt32 = u at *
  have g := (c_irem u 8 8 (by decide)).1
  have a := c_iadd j 1
  have b := c_iadd (j + 1) (u % 8)
  have e1 : (1 : Int32).toInt = 1 := by decide
  have r1 := rng32 (j + 1)
  have r2 := rng32 (j + 1 + u % 8)
  have f := (c_irem (j + 1 + u % 8) 9 9 (by decide)).1
  omega
theorem d1_0 : decode method_2_code 0 = .ok (.lload_n 3, 1) := by decide +kernel
theorem d1_1 : decode method_2_code 1 = .ok (.lstore 9, 2) := by decide +kernel
theorem d1_3 : decode method_2_code 3 = .ok (.iload_n 0, 1) := by decide +kernel
theorem d1_4 : decode method_2_code 4 = .ok (.iload_n 1, 1) := by decide +kernel
theorem d1_5 : decode method_2_code 5 = .ok (.if_icmp .ne 10, 3) := by decide +kernel
theorem d1_8 : decode method_2_code 8 = .ok (.lload 9, 2) := by decide +kernel
theorem d1_10 : decode method_2_code 10 = .ok (.lload 5, 2) := by decide +kernel
theorem d1_12 : decode method_2_code 12 = .ok (.ladd, 1) := by decide +kernel
theorem d1_13 : decode method_2_code 13 = .ok (.lstore 9, 2) := by decide +kernel
theorem d1_15 : decode method_2_code 15 = .ok (.iload_n 0, 1) := by decide +kernel
theorem d1_16 : decode method_2_code 16 = .ok (.iload_n 2, 1) := by decide +kernel
theorem d1_17 : decode method_2_code 17 = .ok (.if_icmp .ne 10, 3) := by decide +kernel
theorem d1_20 : decode method_2_code 20 = .ok (.lload 9, 2) := by decide +kernel
theorem d1_22 : decode method_2_code 22 = .ok (.lload 7, 2) := by decide +kernel
theorem d1_24 : decode method_2_code 24 = .ok (.ladd, 1) := by decide +kernel
theorem d1_25 : decode method_2_code 25 = .ok (.lstore 9, 2) := by decide +kernel
theorem d1_27 : decode method_2_code 27 = .ok (.lload 9, 2) := by decide +kernel
theorem d1_29 : decode method_2_code 29 = .ok (.lreturn, 1) := by decide +kernel
theorem pn_com_example_horarium_horarium_engine_CampusScoreHardPinLaw : plainName "com/example/horarium/horarium/engine/CampusScoreHardPinLaw" = true := by first | (simp [plainName, overriddenIn]; done) | decide +kernel
theorem ef_rm1 (m : MethodId) (p0 : Int32) (p1 : Int32) (p2 : Int32) (q3 : Int64) (q5 : Int64) (q7 : Int64) : entryFrame m #[(.int p0), (.int p1), (.int p2), (.long q3), (.long q5), (.long q7)] 11 = (mkF m 0 #[.val (.int p0), .val (.int p1), .val (.int p2), .val (.long q3), .second, .val (.long q5), .second, .val (.long q7), .second, .unset, .unset] []) := by first | (simp [entryFrame, mkF, argsToLocals, Value.category]; done) | rfl
def Q1 (Z : State) (p0 : Int32) (p1 : Int32) (p2 : Int32) (q3 : Int64) (q5 : Int64) (q7 : Int64) (h0 : Heap) (n0 : Nat) (v : Option Value) (h : Heap) (L : List Loc) : Prop := v = some (.long (own_f p0 p1 p2 q3 q5 q7)) ∧ Fr n0 L ∧ h = h0
set_option maxRecDepth 65536 in
set_option maxHeartbeats 40000000 in
theorem rm1 (l : Launch) (Z : State) (aa : Array Value) (hw : ∀ d ∈ tables_1, d.before aa Z = true) (ws : List Jvm.Cond) (p0 : Int32) (p1 : Int32) (p2 : Int32) (q3 : Int64) (q5 : Int64) (q7 : Int64) (h0 : Heap) (n0 : Nat) (Z0 : n0 ≤ h0.size) :
    MetFree l (⟨"com/example/horarium/horarium/engine/CampusScoreHardPinLaw", "f", "(IIIJJJ)J"⟩ : MethodName) (head1 (Jvm.Cond.code (⟨"com/example/horarium/horarium/engine/CampusScoreHardPinLaw", "f", "(IIIJJJ)J"⟩ : MethodName) method_2_code 11 (some .long) :: ws) ({ frames := 0, cells := 0, slots := 0, locals := 0 } : Room)) (fun a U => a = #[(.int p0), (.int p1), (.int p2), (.long q3), (.long q5), (.long q7)] ∧ Z.Warmed39 U.vm ∧ U.heap = h0) (fun _ _ _ _ _ => True) (fun _ U o U' => ∃ v L, o = .returned v ∧ Q1 Z p0 p1 p2 q3 q5 q7 h0 n0 v U'.heap L ∧ FrameEnd U o U' L ({ frames := 0, cells := 0, slots := 0, locals := 0 } : Room).cells ({ frames := 0, cells := 0, slots := 0, locals := 0 } : Room).slots) := by
  refine MetFree.of_bodySF (plainFor_of_name pn_com_example_horarium_horarium_engine_CampusScoreHardPinLaw) hisR ?_
  intro p e s m args below meth c s₁ Bd hml0 hP hK
  obtain ⟨rfl, hZ, hh⟩ := hP
  have hx := Bd.exec
  have hby := Bd.bytes
  have hml : c.maxLocals = 11 := hml0
  have hown : s.vm.findClass "com/example/horarium/horarium/engine/CampusScoreHardPinLaw" = some m.cls := findClass_of_methodNamed Bd.named
  have hnm := (name_of_methodNamed Bd.named Bd.method).1
  have X0 : Stand p l e ({ frames := 0, cells := 0, slots := 0, locals := 0 } : Room) s m #[(.int p0), (.int p1), (.int p2), (.long q3), (.long q5), (.long q7)] below meth c s₁ [] 0 0 := Stand.of_body Bd
  have e0 : s₁.heap = h0 := by rw [← hh, Bd.state]; rfl
  have N0 := Fr.nil n0
  obtain ⟨G0, hG0⟩ : ∃ G, G = s₁.setTop (entryFrame m #[(.int p0), (.int p1), (.int p2), (.long q3), (.long q5), (.long q7)] 11) := ⟨_, rfl⟩
  have K0 : ∀ t, Steps p.tables e below (s₁.setTop (mkF m 0 #[.val (.int p0), .val (.int p1), .val (.int p2), .val (.long q3), .second, .val (.long q5), .second, .val (.long q7), .second, .unset, .unset] [])) t → Steps p.tables e below G0 t := fun t k => by rw [hG0]; exact castTop (ef_rm1 m p0 p1 p2 q3 q5 q7) k
  have K1 : ∀ t, Steps p.tables e below (s₁.setTop (mkF m 5 #[.val (.int p0), .val (.int p1), .val (.int p2), .val (.long q3), .second, .val (.long q5), .second, .val (.long q7), .second, .val (.long q3), .second] [(.int p1), (.int p0)])) t → Steps p.tables e below G0 t := by
    intro t kt
    refine K0 t ?_
    refine XS.lloadN X0.here hx rfl (hb hby d1_0) rfl ?_
    show Steps p.tables e below (s₁.setTop (mkF m 1 #[.val (.int p0), .val (.int p1), .val (.int p2), .val (.long q3), .second, .val (.long q5), .second, .val (.long q7), .second, .unset, .unset] [(.long q3)])) _
    refine XS.lstore X0.here hx rfl (hb hby d1_1) rfl (l' := #[.val (.int p0), .val (.int p1), .val (.int p2), .val (.long q3), .second, .val (.long q5), .second, .val (.long q7), .second, .val (.long q3), .second]) rfl ?_
    show Steps p.tables e below (s₁.setTop (mkF m 3 #[.val (.int p0), .val (.int p1), .val (.int p2), .val (.long q3), .second, .val (.long q5), .second, .val (.long q7), .second, .val (.long q3), .second] [])) _
    refine XS.iloadN X0.here hx rfl (hb hby d1_3) rfl ?_
    show Steps p.tables e below (s₁.setTop (mkF m 4 #[.val (.int p0), .val (.int p1), .val (.int p2), .val (.long q3), .second, .val (.long q5), .second, .val (.long q7), .second, .val (.long q3), .second] [(.int p0)])) _
    refine XS.iloadN X0.here hx rfl (hb hby d1_4) rfl ?_
    show Steps p.tables e below (s₁.setTop (mkF m 5 #[.val (.int p0), .val (.int p1), .val (.int p2), .val (.long q3), .second, .val (.long q5), .second, .val (.long q7), .second, .val (.long q3), .second] [(.int p1), (.int p0)])) _
    exact kt
  by_cases hc2 : p0 = p1
  ·
    have K3 : ∀ t, Steps p.tables e below (s₁.setTop (mkF m 17 #[.val (.int p0), .val (.int p1), .val (.int p2), .val (.long q3), .second, .val (.long q5), .second, .val (.long q7), .second, .val (.long (q3 + q5)), .second] [(.int p2), (.int p0)])) t → Steps p.tables e below G0 t := by
      intro t kt
      refine K1 t ?_
      refine XS.icmpNo X0.here hx rfl (hb hby d1_5) rfl (teq hc2).2 ?_
      show Steps p.tables e below (s₁.setTop (mkF m 8 #[.val (.int p0), .val (.int p1), .val (.int p2), .val (.long q3), .second, .val (.long q5), .second, .val (.long q7), .second, .val (.long q3), .second] [])) _
      refine XS.lload X0.here hx rfl (hb hby d1_8) rfl ?_
      show Steps p.tables e below (s₁.setTop (mkF m 10 #[.val (.int p0), .val (.int p1), .val (.int p2), .val (.long q3), .second, .val (.long q5), .second, .val (.long q7), .second, .val (.long q3), .second] [(.long q3)])) _
      refine XS.lload X0.here hx rfl (hb hby d1_10) rfl ?_
      show Steps p.tables e below (s₁.setTop (mkF m 12 #[.val (.int p0), .val (.int p1), .val (.int p2), .val (.long q3), .second, .val (.long q5), .second, .val (.long q7), .second, .val (.long q3), .second] [(.long q5), (.long q3)])) _
      refine XS.ladd X0.here hx rfl (hb hby d1_12) rfl ?_
      show Steps p.tables e below (s₁.setTop (mkF m 13 #[.val (.int p0), .val (.int p1), .val (.int p2), .val (.long q3), .second, .val (.long q5), .second, .val (.long q7), .second, .val (.long q3), .second] [(.long (q3 + q5))])) _
      refine XS.lstore X0.here hx rfl (hb hby d1_13) rfl (l' := #[.val (.int p0), .val (.int p1), .val (.int p2), .val (.long q3), .second, .val (.long q5), .second, .val (.long q7), .second, .val (.long (q3 + q5)), .second]) rfl ?_
      show Steps p.tables e below (s₁.setTop (mkF m 15 #[.val (.int p0), .val (.int p1), .val (.int p2), .val (.long q3), .second, .val (.long q5), .second, .val (.long q7), .second, .val (.long (q3 + q5)), .second] [])) _
      refine XS.iloadN X0.here hx rfl (hb hby d1_15) rfl ?_
      show Steps p.tables e below (s₁.setTop (mkF m 16 #[.val (.int p0), .val (.int p1), .val (.int p2), .val (.long q3), .second, .val (.long q5), .second, .val (.long q7), .second, .val (.long (q3 + q5)), .second] [(.int p0)])) _
      refine XS.iloadN X0.here hx rfl (hb hby d1_16) rfl ?_
      show Steps p.tables e below (s₁.setTop (mkF m 17 #[.val (.int p0), .val (.int p1), .val (.int p2), .val (.long q3), .second, .val (.long q5), .second, .val (.long q7), .second, .val (.long (q3 + q5)), .second] [(.int p2), (.int p0)])) _
      exact kt
    by_cases hc4 : p0 = p2
    ·
      have K5 : ∀ t, Steps p.tables e below (s₁.setTop (mkF m 29 #[.val (.int p0), .val (.int p1), .val (.int p2), .val (.long q3), .second, .val (.long q5), .second, .val (.long q7), .second, .val (.long ((q3 + q5) + q7)), .second] [(.long ((q3 + q5) + q7))])) t → Steps p.tables e below G0 t := by
        intro t kt
        refine K3 t ?_
        refine XS.icmpNo X0.here hx rfl (hb hby d1_17) rfl (teq hc4).2 ?_
        show Steps p.tables e below (s₁.setTop (mkF m 20 #[.val (.int p0), .val (.int p1), .val (.int p2), .val (.long q3), .second, .val (.long q5), .second, .val (.long q7), .second, .val (.long (q3 + q5)), .second] [])) _
        refine XS.lload X0.here hx rfl (hb hby d1_20) rfl ?_
        show Steps p.tables e below (s₁.setTop (mkF m 22 #[.val (.int p0), .val (.int p1), .val (.int p2), .val (.long q3), .second, .val (.long q5), .second, .val (.long q7), .second, .val (.long (q3 + q5)), .second] [(.long (q3 + q5))])) _
        refine XS.lload X0.here hx rfl (hb hby d1_22) rfl ?_
        show Steps p.tables e below (s₁.setTop (mkF m 24 #[.val (.int p0), .val (.int p1), .val (.int p2), .val (.long q3), .second, .val (.long q5), .second, .val (.long q7), .second, .val (.long (q3 + q5)), .second] [(.long q7), (.long (q3 + q5))])) _
        refine XS.ladd X0.here hx rfl (hb hby d1_24) rfl ?_
        show Steps p.tables e below (s₁.setTop (mkF m 25 #[.val (.int p0), .val (.int p1), .val (.int p2), .val (.long q3), .second, .val (.long q5), .second, .val (.long q7), .second, .val (.long (q3 + q5)), .second] [(.long ((q3 + q5) + q7))])) _
        refine XS.lstore X0.here hx rfl (hb hby d1_25) rfl (l' := #[.val (.int p0), .val (.int p1), .val (.int p2), .val (.long q3), .second, .val (.long q5), .second, .val (.long q7), .second, .val (.long ((q3 + q5) + q7)), .second]) rfl ?_
        show Steps p.tables e below (s₁.setTop (mkF m 27 #[.val (.int p0), .val (.int p1), .val (.int p2), .val (.long q3), .second, .val (.long q5), .second, .val (.long q7), .second, .val (.long ((q3 + q5) + q7)), .second] [])) _
        refine XS.lload X0.here hx rfl (hb hby d1_27) rfl ?_
        show Steps p.tables e below (s₁.setTop (mkF m 29 #[.val (.int p0), .val (.int p1), .val (.int p2), .val (.long q3), .second, .val (.long q5), .second, .val (.long q7), .second, .val (.long ((q3 + q5) + q7)), .second] [(.long ((q3 + q5) + q7))])) _
        exact kt
      obtain ⟨fs, hr, hrun, hended, hW, hsame⟩ := X0.leave (v := some (.long ((q3 + q5) + q7))) (fun h => by rw [Bd.returns] at h; cases h)
      refine ⟨_, _, ?_, hrun, hended, _, _, rfl, ?_, ⟨_, rfl⟩, hW, hsame.mono (by decide) (by decide)⟩
      · rw [← hG0]
        refine K5 _ ?_
        exact retOut X0 hx (t := .long) Bd.returns rfl (Or.inr (Or.inl ⟨rfl, rfl, _, rfl⟩)) (hb hby d1_29) hr
      · show Q1 Z p0 p1 p2 q3 q5 q7 h0 n0 _ s₁.heap _
        rw [e0]
        exact ⟨by unfold own_f; rw [if_pos hc4, if_pos hc2], N0, rfl⟩
    ·
      have K6 : ∀ t, Steps p.tables e below (s₁.setTop (mkF m 29 #[.val (.int p0), .val (.int p1), .val (.int p2), .val (.long q3), .second, .val (.long q5), .second, .val (.long q7), .second, .val (.long (q3 + q5)), .second] [(.long (q3 + q5))])) t → Steps p.tables e below G0 t := by
        intro t kt
        refine K3 t ?_
        refine XS.icmpYes X0.here hx rfl (pc0 := 17) (pc' := 27) rfl (hb hby d1_17) rfl (feq hc4).2 (by decide) (by decide) ?_
        show Steps p.tables e below (s₁.setTop (mkF m 27 #[.val (.int p0), .val (.int p1), .val (.int p2), .val (.long q3), .second, .val (.long q5), .second, .val (.long q7), .second, .val (.long (q3 + q5)), .second] [])) _
        refine XS.lload X0.here hx rfl (hb hby d1_27) rfl ?_
        show Steps p.tables e below (s₁.setTop (mkF m 29 #[.val (.int p0), .val (.int p1), .val (.int p2), .val (.long q3), .second, .val (.long q5), .second, .val (.long q7), .second, .val (.long (q3 + q5)), .second] [(.long (q3 + q5))])) _
        exact kt
      obtain ⟨fs, hr, hrun, hended, hW, hsame⟩ := X0.leave (v := some (.long (q3 + q5))) (fun h => by rw [Bd.returns] at h; cases h)
      refine ⟨_, _, ?_, hrun, hended, _, _, rfl, ?_, ⟨_, rfl⟩, hW, hsame.mono (by decide) (by decide)⟩
      · rw [← hG0]
        refine K6 _ ?_
        exact retOut X0 hx (t := .long) Bd.returns rfl (Or.inr (Or.inl ⟨rfl, rfl, _, rfl⟩)) (hb hby d1_29) hr
      · show Q1 Z p0 p1 p2 q3 q5 q7 h0 n0 _ s₁.heap _
        rw [e0]
        exact ⟨by unfold own_f; rw [if_neg hc4, if_pos hc2], N0, rfl⟩
  ·
    have K7 : ∀ t, Steps p.tables e below (s₁.setTop (mkF m 17 #[.val (.int p0), .val (.int p1), .val (.int p2), .val (.long q3), .second, .val (.long q5), .second, .val (.long q7), .second, .val (.long q3), .second] [(.int p2), (.int p0)])) t → Steps p.tables e below G0 t := by
      intro t kt
      refine K1 t ?_
      refine XS.icmpYes X0.here hx rfl (pc0 := 5) (pc' := 15) rfl (hb hby d1_5) rfl (feq hc2).2 (by decide) (by decide) ?_
      show Steps p.tables e below (s₁.setTop (mkF m 15 #[.val (.int p0), .val (.int p1), .val (.int p2), .val (.long q3), .second, .val (.long q5), .second, .val (.long q7), .second, .val (.long q3), .second] [])) _
      refine XS.iloadN X0.here hx rfl (hb hby d1_15) rfl ?_
      show Steps p.tables e below (s₁.setTop (mkF m 16 #[.val (.int p0), .val (.int p1), .val (.int p2), .val (.long q3), .second, .val (.long q5), .second, .val (.long q7), .second, .val (.long q3), .second] [(.int p0)])) _
      refine XS.iloadN X0.here hx rfl (hb hby d1_16) rfl ?_
      show Steps p.tables e below (s₁.setTop (mkF m 17 #[.val (.int p0), .val (.int p1), .val (.int p2), .val (.long q3), .second, .val (.long q5), .second, .val (.long q7), .second, .val (.long q3), .second] [(.int p2), (.int p0)])) _
      exact kt
    by_cases hc8 : p0 = p2
    ·
      have K9 : ∀ t, Steps p.tables e below (s₁.setTop (mkF m 29 #[.val (.int p0), .val (.int p1), .val (.int p2), .val (.long q3), .second, .val (.long q5), .second, .val (.long q7), .second, .val (.long (q3 + q7)), .second] [(.long (q3 + q7))])) t → Steps p.tables e below G0 t := by
        intro t kt
        refine K7 t ?_
        refine XS.icmpNo X0.here hx rfl (hb hby d1_17) rfl (teq hc8).2 ?_
        show Steps p.tables e below (s₁.setTop (mkF m 20 #[.val (.int p0), .val (.int p1), .val (.int p2), .val (.long q3), .second, .val (.long q5), .second, .val (.long q7), .second, .val (.long q3), .second] [])) _
        refine XS.lload X0.here hx rfl (hb hby d1_20) rfl ?_
        show Steps p.tables e below (s₁.setTop (mkF m 22 #[.val (.int p0), .val (.int p1), .val (.int p2), .val (.long q3), .second, .val (.long q5), .second, .val (.long q7), .second, .val (.long q3), .second] [(.long q3)])) _
        refine XS.lload X0.here hx rfl (hb hby d1_22) rfl ?_
        show Steps p.tables e below (s₁.setTop (mkF m 24 #[.val (.int p0), .val (.int p1), .val (.int p2), .val (.long q3), .second, .val (.long q5), .second, .val (.long q7), .second, .val (.long q3), .second] [(.long q7), (.long q3)])) _
        refine XS.ladd X0.here hx rfl (hb hby d1_24) rfl ?_
        show Steps p.tables e below (s₁.setTop (mkF m 25 #[.val (.int p0), .val (.int p1), .val (.int p2), .val (.long q3), .second, .val (.long q5), .second, .val (.long q7), .second, .val (.long q3), .second] [(.long (q3 + q7))])) _
        refine XS.lstore X0.here hx rfl (hb hby d1_25) rfl (l' := #[.val (.int p0), .val (.int p1), .val (.int p2), .val (.long q3), .second, .val (.long q5), .second, .val (.long q7), .second, .val (.long (q3 + q7)), .second]) rfl ?_
        show Steps p.tables e below (s₁.setTop (mkF m 27 #[.val (.int p0), .val (.int p1), .val (.int p2), .val (.long q3), .second, .val (.long q5), .second, .val (.long q7), .second, .val (.long (q3 + q7)), .second] [])) _
        refine XS.lload X0.here hx rfl (hb hby d1_27) rfl ?_
        show Steps p.tables e below (s₁.setTop (mkF m 29 #[.val (.int p0), .val (.int p1), .val (.int p2), .val (.long q3), .second, .val (.long q5), .second, .val (.long q7), .second, .val (.long (q3 + q7)), .second] [(.long (q3 + q7))])) _
        exact kt
      obtain ⟨fs, hr, hrun, hended, hW, hsame⟩ := X0.leave (v := some (.long (q3 + q7))) (fun h => by rw [Bd.returns] at h; cases h)
      refine ⟨_, _, ?_, hrun, hended, _, _, rfl, ?_, ⟨_, rfl⟩, hW, hsame.mono (by decide) (by decide)⟩
      · rw [← hG0]
        refine K9 _ ?_
        exact retOut X0 hx (t := .long) Bd.returns rfl (Or.inr (Or.inl ⟨rfl, rfl, _, rfl⟩)) (hb hby d1_29) hr
      · show Q1 Z p0 p1 p2 q3 q5 q7 h0 n0 _ s₁.heap _
        rw [e0]
        exact ⟨by unfold own_f; rw [if_pos hc8, if_neg hc2], N0, rfl⟩
    ·
      have K10 : ∀ t, Steps p.tables e below (s₁.setTop (mkF m 29 #[.val (.int p0), .val (.int p1), .val (.int p2), .val (.long q3), .second, .val (.long q5), .second, .val (.long q7), .second, .val (.long q3), .second] [(.long q3)])) t → Steps p.tables e below G0 t := by
        intro t kt
        refine K7 t ?_
        refine XS.icmpYes X0.here hx rfl (pc0 := 17) (pc' := 27) rfl (hb hby d1_17) rfl (feq hc8).2 (by decide) (by decide) ?_
        show Steps p.tables e below (s₁.setTop (mkF m 27 #[.val (.int p0), .val (.int p1), .val (.int p2), .val (.long q3), .second, .val (.long q5), .second, .val (.long q7), .second, .val (.long q3), .second] [])) _
        refine XS.lload X0.here hx rfl (hb hby d1_27) rfl ?_
        show Steps p.tables e below (s₁.setTop (mkF m 29 #[.val (.int p0), .val (.int p1), .val (.int p2), .val (.long q3), .second, .val (.long q5), .second, .val (.long q7), .second, .val (.long q3), .second] [(.long q3)])) _
        exact kt
      obtain ⟨fs, hr, hrun, hended, hW, hsame⟩ := X0.leave (v := some (.long q3)) (fun h => by rw [Bd.returns] at h; cases h)
      refine ⟨_, _, ?_, hrun, hended, _, _, rfl, ?_, ⟨_, rfl⟩, hW, hsame.mono (by decide) (by decide)⟩
      · rw [← hG0]
        refine K10 _ ?_
        exact retOut X0 hx (t := .long) Bd.returns rfl (Or.inr (Or.inl ⟨rfl, rfl, _, rfl⟩)) (hb hby d1_29) hr
      · show Q1 Z p0 p1 p2 q3 q5 q7 h0 n0 _ s₁.heap _
        rw [e0]
        exact ⟨by unfold own_f; rw [if_neg hc8, if_neg hc2], N0, rfl⟩
theorem d3_0 : decode jdk_30_method_1_code 0 = .ok (.aload_n 0, 1) := by decide +kernel
theorem d3_1 : decode jdk_30_method_1_code 1 = .ok (.invokespecial 1, 3) := by decide +kernel
theorem d3_4 : decode jdk_30_method_1_code 4 = .ok (.return_, 1) := by decide +kernel
theorem pn_java_lang_Record : plainName "java/lang/Record" = true := by first | (simp [plainName, overriddenIn]; done) | decide +kernel
theorem ef_rm3 (m : MethodId) (a0 : Addr) : entryFrame m #[(.ref a0)] 1 = (mkF m 0 #[.val (.ref a0)] []) := by first | (simp [entryFrame, mkF, argsToLocals, Value.category]; done) | rfl
def Q3 (Z : State) (a0 : Addr) (h0 : Heap) (n0 : Nat) (v : Option Value) (h : Heap) (L : List Loc) : Prop := v = none ∧ Fr n0 L ∧ h = h0
set_option maxRecDepth 65536 in
set_option maxHeartbeats 40000000 in
theorem rm3 (l : Launch) (Z : State) (aa : Array Value) (hw : ∀ d ∈ tables_1, d.before aa Z = true) (ws : List Jvm.Cond) (a0 : Addr) (h0 : Heap) (n0 : Nat) (Z0 : n0 ≤ h0.size) :
    MetFree l (⟨"java/lang/Record", "<init>", "()V"⟩ : MethodName) (head1 (Jvm.Cond.code (⟨"java/lang/Record", "<init>", "()V"⟩ : MethodName) jdk_30_method_1_code 1 none :: ws) ({ frames := 1, cells := 0, slots := 0, locals := 12 } : Room)) (fun a U => a = #[(.ref a0)] ∧ Z.Warmed39 U.vm ∧ U.heap = h0) (fun _ _ _ _ _ => True) (fun _ U o U' => ∃ v L, o = .returned v ∧ Q3 Z a0 h0 n0 v U'.heap L ∧ FrameEnd U o U' L ({ frames := 1, cells := 0, slots := 0, locals := 12 } : Room).cells ({ frames := 1, cells := 0, slots := 0, locals := 12 } : Room).slots) := by
  refine MetFree.of_bodySF (plainFor_of_name pn_java_lang_Record) hisR ?_
  intro p e s m args below meth c s₁ Bd hml0 hP hK
  obtain ⟨rfl, hZ, hh⟩ := hP
  have hx := Bd.exec
  have hby := Bd.bytes
  have hml : c.maxLocals = 1 := hml0
  have hown : s.vm.findClass "java/lang/Record" = some m.cls := findClass_of_methodNamed Bd.named
  have hnm := (name_of_methodNamed Bd.named Bd.method).1
  have X0 : Stand p l e ({ frames := 1, cells := 0, slots := 0, locals := 12 } : Room) s m #[(.ref a0)] below meth c s₁ [] 0 0 := Stand.of_body Bd
  have e0 : s₁.heap = h0 := by rw [← hh, Bd.state]; rfl
  have N0 := Fr.nil n0
  obtain ⟨G0, hG0⟩ : ∃ G, G = s₁.setTop (entryFrame m #[(.ref a0)] 1) := ⟨_, rfl⟩
  have K0 : ∀ t, Steps p.tables e below (s₁.setTop (mkF m 0 #[.val (.ref a0)] [])) t → Steps p.tables e below G0 t := fun t k => by rw [hG0]; exact castTop (ef_rm3 m a0) k
  have K1 : ∀ t, Steps p.tables e below (s₁.setTop (mkF m 1 #[.val (.ref a0)] [(.ref a0)])) t → Steps p.tables e below G0 t := by
    intro t kt
    refine K0 t ?_
    refine XS.aloadN X0.here hx rfl (hb hby d3_0) rfl rfl ?_
    show Steps p.tables e below (s₁.setTop (mkF m 1 #[.val (.ref a0)] [(.ref a0)])) _
    exact kt
  obtain ⟨T2, X2, e2, st2⟩ := initO X0 hx hZ hown (hw _ (List.mem_of_getElem? (i := 16) rfl)) (hw _ (List.mem_of_getElem? (i := 17) rfl)) (hw _ (List.mem_of_getElem? (i := 18) rfl)) e0 (g := (mkF m 1 #[.val (.ref a0)] [(.ref a0)])) rfl (by rw [hml]; rfl) rfl (hb hby d3_1) (by decide) (W := 0) (by show 2 * 0 + _ ≤ _; exact Nat.le_of_eq rfl) (by decide)
  have K2 : ∀ t, Steps p.tables e below (T2.setTop (mkF m 4 #[.val (.ref a0)] [])) t → Steps p.tables e below G0 t := fun t kt => K1 t (st2 _ kt)
  obtain ⟨fs, hr, hrun, hended, hW, hsame⟩ := X2.leave (v := none) (fun _ => rfl)
  refine ⟨_, _, ?_, hrun, hended, _, _, rfl, ?_, ⟨_, rfl⟩, hW, hsame.mono (by decide) (by decide)⟩
  · rw [← hG0]
    refine K2 _ ?_
    exact X2.returnOut hx Bd.returns (hb hby d3_4) hr
  · show Q3 Z a0 h0 n0 _ T2.heap _
    rw [e2]
    exact ⟨rfl, N0, rfl⟩
theorem d2_0 : decode prog_45_method_1_code 0 = .ok (.aload_n 0, 1) := by decide +kernel
theorem d2_1 : decode prog_45_method_1_code 1 = .ok (.invokespecial 1, 3) := by decide +kernel
theorem d2_4 : decode prog_45_method_1_code 4 = .ok (.aload_n 0, 1) := by decide +kernel
theorem d2_5 : decode prog_45_method_1_code 5 = .ok (.lload_n 1, 1) := by decide +kernel
theorem d2_6 : decode prog_45_method_1_code 6 = .ok (.putfield 7, 3) := by decide +kernel
theorem d2_9 : decode prog_45_method_1_code 9 = .ok (.aload_n 0, 1) := by decide +kernel
theorem d2_10 : decode prog_45_method_1_code 10 = .ok (.lload_n 3, 1) := by decide +kernel
theorem d2_11 : decode prog_45_method_1_code 11 = .ok (.putfield 13, 3) := by decide +kernel
theorem d2_14 : decode prog_45_method_1_code 14 = .ok (.aload_n 0, 1) := by decide +kernel
theorem d2_15 : decode prog_45_method_1_code 15 = .ok (.lload 5, 2) := by decide +kernel
theorem d2_17 : decode prog_45_method_1_code 17 = .ok (.putfield 16, 3) := by decide +kernel
theorem d2_20 : decode prog_45_method_1_code 20 = .ok (.aload_n 0, 1) := by decide +kernel
theorem d2_21 : decode prog_45_method_1_code 21 = .ok (.lload 7, 2) := by decide +kernel
theorem d2_23 : decode prog_45_method_1_code 23 = .ok (.putfield 19, 3) := by decide +kernel
theorem d2_26 : decode prog_45_method_1_code 26 = .ok (.aload_n 0, 1) := by decide +kernel
theorem d2_27 : decode prog_45_method_1_code 27 = .ok (.lload 9, 2) := by decide +kernel
theorem d2_29 : decode prog_45_method_1_code 29 = .ok (.putfield 22, 3) := by decide +kernel
theorem d2_32 : decode prog_45_method_1_code 32 = .ok (.aload_n 0, 1) := by decide +kernel
theorem d2_33 : decode prog_45_method_1_code 33 = .ok (.lload 11, 2) := by decide +kernel
theorem d2_35 : decode prog_45_method_1_code 35 = .ok (.putfield 25, 3) := by decide +kernel
theorem d2_38 : decode prog_45_method_1_code 38 = .ok (.aload_n 0, 1) := by decide +kernel
theorem d2_39 : decode prog_45_method_1_code 39 = .ok (.lload 13, 2) := by decide +kernel
theorem d2_41 : decode prog_45_method_1_code 41 = .ok (.putfield 28, 3) := by decide +kernel
theorem d2_44 : decode prog_45_method_1_code 44 = .ok (.aload_n 0, 1) := by decide +kernel
theorem d2_45 : decode prog_45_method_1_code 45 = .ok (.lload 15, 2) := by decide +kernel
theorem d2_47 : decode prog_45_method_1_code 47 = .ok (.putfield 31, 3) := by decide +kernel
theorem d2_50 : decode prog_45_method_1_code 50 = .ok (.aload_n 0, 1) := by decide +kernel
theorem d2_51 : decode prog_45_method_1_code 51 = .ok (.lload 17, 2) := by decide +kernel
theorem d2_53 : decode prog_45_method_1_code 53 = .ok (.putfield 34, 3) := by decide +kernel
theorem d2_56 : decode prog_45_method_1_code 56 = .ok (.aload_n 0, 1) := by decide +kernel
theorem d2_57 : decode prog_45_method_1_code 57 = .ok (.lload 19, 2) := by decide +kernel
theorem d2_59 : decode prog_45_method_1_code 59 = .ok (.putfield 37, 3) := by decide +kernel
theorem d2_62 : decode prog_45_method_1_code 62 = .ok (.aload_n 0, 1) := by decide +kernel
theorem d2_63 : decode prog_45_method_1_code 63 = .ok (.lload 21, 2) := by decide +kernel
theorem d2_65 : decode prog_45_method_1_code 65 = .ok (.putfield 40, 3) := by decide +kernel
theorem d2_68 : decode prog_45_method_1_code 68 = .ok (.aload_n 0, 1) := by decide +kernel
theorem d2_69 : decode prog_45_method_1_code 69 = .ok (.dload 23, 2) := by decide +kernel
theorem d2_71 : decode prog_45_method_1_code 71 = .ok (.putfield 43, 3) := by decide +kernel
theorem d2_74 : decode prog_45_method_1_code 74 = .ok (.return_, 1) := by decide +kernel
theorem pn_com_example_horarium_horarium_engine_CampusScore : plainName "com/example/horarium/horarium/engine/CampusScore" = true := by first | (simp [plainName, overriddenIn]; done) | decide +kernel
theorem pd_PQV : parseMethodDescriptor "()V" = some ⟨[], none⟩ := by decide +kernel
theorem ef_rm2 (m : MethodId) (a0 : Addr) (x1 : Int64) (x2 : Int64) (x3 : Int64) (x4 : Int64) (x5 : Int64) (x6 : Int64) (x7 : Int64) (x8 : Int64) (x9 : Int64) (x10 : Int64) (x11 : Int64) (x12 : UInt64) : entryFrame m #[(.ref a0), (.long x1), (.long x2), (.long x3), (.long x4), (.long x5), (.long x6), (.long x7), (.long x8), (.long x9), (.long x10), (.long x11), (.double x12)] 25 = (mkF m 0 #[.val (.ref a0), .val (.long x1), .second, .val (.long x2), .second, .val (.long x3), .second, .val (.long x4), .second, .val (.long x5), .second, .val (.long x6), .second, .val (.long x7), .second, .val (.long x8), .second, .val (.long x9), .second, .val (.long x10), .second, .val (.long x11), .second, .val (.double x12), .second] []) := by first | (simp [entryFrame, mkF, argsToLocals, Value.category]; done) | rfl
def Q2 (Z : State) (a0 : Addr) (x1 : Int64) (x2 : Int64) (x3 : Int64) (x4 : Int64) (x5 : Int64) (x6 : Int64) (x7 : Int64) (x8 : Int64) (x9 : Int64) (x10 : Int64) (x11 : Int64) (x12 : UInt64) (u_lessons : Value) (u_roomClashes : Value) (u_teacherClashes : Value) (u_curriculumClashes : Value) (u_unavailable : Value) (u_unqualified : Value) (u_splitTeacher : Value) (u_wrongRoom : Value) (u_wrongShift : Value) (u_placed : Value) (u_preferred : Value) (u_loadStddev : Value) (h0 : Heap) (n0 : Nat) (v : Option Value) (h : Heap) (L : List Loc) : Prop := v = none ∧ Fr n0 L ∧ Keep h0 h [a0] ∧ Exa Z h a0 "com/example/horarium/horarium/engine/CampusScore" ∧ Fld Z h a0 "com/example/horarium/horarium/engine/CampusScore" "lessons" "J" (.long x1) ∧ Fld Z h a0 "com/example/horarium/horarium/engine/CampusScore" "roomClashes" "J" (.long x2) ∧ Fld Z h a0 "com/example/horarium/horarium/engine/CampusScore" "teacherClashes" "J" (.long x3) ∧ Fld Z h a0 "com/example/horarium/horarium/engine/CampusScore" "curriculumClashes" "J" (.long x4) ∧ Fld Z h a0 "com/example/horarium/horarium/engine/CampusScore" "unavailable" "J" (.long x5) ∧ Fld Z h a0 "com/example/horarium/horarium/engine/CampusScore" "unqualified" "J" (.long x6) ∧ Fld Z h a0 "com/example/horarium/horarium/engine/CampusScore" "splitTeacher" "J" (.long x7) ∧ Fld Z h a0 "com/example/horarium/horarium/engine/CampusScore" "wrongRoom" "J" (.long x8) ∧ Fld Z h a0 "com/example/horarium/horarium/engine/CampusScore" "wrongShift" "J" (.long x9) ∧ Fld Z h a0 "com/example/horarium/horarium/engine/CampusScore" "placed" "J" (.long x10) ∧ Fld Z h a0 "com/example/horarium/horarium/engine/CampusScore" "preferred" "J" (.long x11) ∧ Fld Z h a0 "com/example/horarium/horarium/engine/CampusScore" "loadStddev" "D" (.double x12)
set_option maxRecDepth 65536 in
set_option maxHeartbeats 40000000 in
theorem rm2 (l : Launch) (Z : State) (aa : Array Value) (hw : ∀ d ∈ tables_1, d.before aa Z = true) (ws : List Jvm.Cond) (a0 : Addr) (x1 : Int64) (x2 : Int64) (x3 : Int64) (x4 : Int64) (x5 : Int64) (x6 : Int64) (x7 : Int64) (x8 : Int64) (x9 : Int64) (x10 : Int64) (x11 : Int64) (x12 : UInt64) (u_lessons : Value) (u_roomClashes : Value) (u_teacherClashes : Value) (u_curriculumClashes : Value) (u_unavailable : Value) (u_unqualified : Value) (u_splitTeacher : Value) (u_wrongRoom : Value) (u_wrongShift : Value) (u_placed : Value) (u_preferred : Value) (u_loadStddev : Value) (h0 : Heap) (n0 : Nat) (Z0 : n0 ≤ h0.size) (gn : n0 ≤ a0) (E0 : Exa Z h0 a0 "com/example/horarium/horarium/engine/CampusScore") (F_lessons : Fld Z h0 a0 "com/example/horarium/horarium/engine/CampusScore" "lessons" "J" u_lessons) (F_roomClashes : Fld Z h0 a0 "com/example/horarium/horarium/engine/CampusScore" "roomClashes" "J" u_roomClashes) (F_teacherClashes : Fld Z h0 a0 "com/example/horarium/horarium/engine/CampusScore" "teacherClashes" "J" u_teacherClashes) (F_curriculumClashes : Fld Z h0 a0 "com/example/horarium/horarium/engine/CampusScore" "curriculumClashes" "J" u_curriculumClashes) (F_unavailable : Fld Z h0 a0 "com/example/horarium/horarium/engine/CampusScore" "unavailable" "J" u_unavailable) (F_unqualified : Fld Z h0 a0 "com/example/horarium/horarium/engine/CampusScore" "unqualified" "J" u_unqualified) (F_splitTeacher : Fld Z h0 a0 "com/example/horarium/horarium/engine/CampusScore" "splitTeacher" "J" u_splitTeacher) (F_wrongRoom : Fld Z h0 a0 "com/example/horarium/horarium/engine/CampusScore" "wrongRoom" "J" u_wrongRoom) (F_wrongShift : Fld Z h0 a0 "com/example/horarium/horarium/engine/CampusScore" "wrongShift" "J" u_wrongShift) (F_placed : Fld Z h0 a0 "com/example/horarium/horarium/engine/CampusScore" "placed" "J" u_placed) (F_preferred : Fld Z h0 a0 "com/example/horarium/horarium/engine/CampusScore" "preferred" "J" u_preferred) (F_loadStddev : Fld Z h0 a0 "com/example/horarium/horarium/engine/CampusScore" "loadStddev" "D" u_loadStddev) :
    MetFree l (⟨"com/example/horarium/horarium/engine/CampusScore", "<init>", "(JJJJJJJJJJJD)V"⟩ : MethodName) (head1 (Jvm.Cond.code (⟨"com/example/horarium/horarium/engine/CampusScore", "<init>", "(JJJJJJJJJJJD)V"⟩ : MethodName) prog_45_method_1_code 25 none :: ws) ({ frames := 2, cells := 0, slots := 0, locals := 24 } : Room)) (fun a U => a = #[(.ref a0), (.long x1), (.long x2), (.long x3), (.long x4), (.long x5), (.long x6), (.long x7), (.long x8), (.long x9), (.long x10), (.long x11), (.double x12)] ∧ Z.Warmed39 U.vm ∧ U.heap = h0) (fun _ _ _ _ _ => True) (fun _ U o U' => ∃ v L, o = .returned v ∧ Q2 Z a0 x1 x2 x3 x4 x5 x6 x7 x8 x9 x10 x11 x12 u_lessons u_roomClashes u_teacherClashes u_curriculumClashes u_unavailable u_unqualified u_splitTeacher u_wrongRoom u_wrongShift u_placed u_preferred u_loadStddev h0 n0 v U'.heap L ∧ FrameEnd U o U' L ({ frames := 2, cells := 0, slots := 0, locals := 24 } : Room).cells ({ frames := 2, cells := 0, slots := 0, locals := 24 } : Room).slots) := by
  refine MetFree.of_bodySF (plainFor_of_name pn_com_example_horarium_horarium_engine_CampusScore) hisR ?_
  intro p e s m args below meth c s₁ Bd hml0 hP hK
  obtain ⟨rfl, hZ, hh⟩ := hP
  have hx := Bd.exec
  have hby := Bd.bytes
  have hml : c.maxLocals = 25 := hml0
  have hown : s.vm.findClass "com/example/horarium/horarium/engine/CampusScore" = some m.cls := findClass_of_methodNamed Bd.named
  have hnm := (name_of_methodNamed Bd.named Bd.method).1
  have X0 : Stand p l e ({ frames := 2, cells := 0, slots := 0, locals := 24 } : Room) s m #[(.ref a0), (.long x1), (.long x2), (.long x3), (.long x4), (.long x5), (.long x6), (.long x7), (.long x8), (.long x9), (.long x10), (.long x11), (.double x12)] below meth c s₁ [] 0 0 := Stand.of_body Bd
  have e0 : s₁.heap = h0 := by rw [← hh, Bd.state]; rfl
  have N0 := Fr.nil n0
  obtain ⟨G0, hG0⟩ : ∃ G, G = s₁.setTop (entryFrame m #[(.ref a0), (.long x1), (.long x2), (.long x3), (.long x4), (.long x5), (.long x6), (.long x7), (.long x8), (.long x9), (.long x10), (.long x11), (.double x12)] 25) := ⟨_, rfl⟩
  have K0 : ∀ t, Steps p.tables e below (s₁.setTop (mkF m 0 #[.val (.ref a0), .val (.long x1), .second, .val (.long x2), .second, .val (.long x3), .second, .val (.long x4), .second, .val (.long x5), .second, .val (.long x6), .second, .val (.long x7), .second, .val (.long x8), .second, .val (.long x9), .second, .val (.long x10), .second, .val (.long x11), .second, .val (.double x12), .second] [])) t → Steps p.tables e below G0 t := fun t k => by rw [hG0]; exact castTop (ef_rm2 m a0 x1 x2 x3 x4 x5 x6 x7 x8 x9 x10 x11 x12) k
  have KP1 := Keep.refl h0 [a0]
  have K2 : ∀ t, Steps p.tables e below (s₁.setTop (mkF m 1 #[.val (.ref a0), .val (.long x1), .second, .val (.long x2), .second, .val (.long x3), .second, .val (.long x4), .second, .val (.long x5), .second, .val (.long x6), .second, .val (.long x7), .second, .val (.long x8), .second, .val (.long x9), .second, .val (.long x10), .second, .val (.long x11), .second, .val (.double x12), .second] [(.ref a0)])) t → Steps p.tables e below G0 t := by
    intro t kt
    refine K0 t ?_
    refine XS.aloadN X0.here hx rfl (hb hby d2_0) rfl rfl ?_
    show Steps p.tables e below (s₁.setTop (mkF m 1 #[.val (.ref a0), .val (.long x1), .second, .val (.long x2), .second, .val (.long x3), .second, .val (.long x4), .second, .val (.long x5), .second, .val (.long x6), .second, .val (.long x7), .second, .val (.long x8), .second, .val (.long x9), .second, .val (.long x10), .second, .val (.long x11), .second, .val (.double x12), .second] [(.ref a0)])) _
    exact kt
  obtain ⟨_, _, ⟨T3, L3, k3, n3⟩, -, X3, ⟨Lc3, hQ3, l3, y3, z3⟩, st3⟩ := X0.specialBack hx (y := (⟨"java/lang/Record", "<init>", "()V"⟩ : MethodName)) rfl hown (mvT hZ (hw _ (List.mem_of_getElem? (i := 11) rfl))) (mvT hZ (hw _ (List.mem_of_getElem? (i := 12) rfl))) (mvT hZ (hw _ (List.mem_of_getElem? (i := 15) rfl))) (by decide) (backOf (W := 0) (rm3 l Z aa hw [] (a0)  h0 n0 Z0 ) hZ (hw _ (List.mem_of_getElem? (i := 15) rfl)) (hw _ (List.mem_of_getElem? (i := 14) rfl)) (by decide) (by decide)) (g := (mkF m 1 #[.val (.ref a0), .val (.long x1), .second, .val (.long x2), .second, .val (.long x3), .second, .val (.long x4), .second, .val (.long x5), .second, .val (.long x6), .second, .val (.long x7), .second, .val (.long x8), .second, .val (.long x9), .second, .val (.long x10), .second, .val (.long x11), .second, .val (.double x12), .second] [(.ref a0)])) rfl (by rw [hml]; rfl) (Steps.refl _) (a := a0) (argsL := []) (rest := []) (lenOf pd_PQV rfl) rfl (by show 2 * 0 + _ ≤ _; exact Nat.le_of_eq rfl) (hb hby d2_1) (fun _ _ => ⟨rfl, e0, (by decide : 0 + 0 ≤ _), (by decide : 0 + 0 ≤ _)⟩)
  dsimp only [Pt.U, Pt.locs, Pt.cells, Pt.slots] at X3 l3 y3 z3 st3 hQ3
  subst l3 y3 z3
  obtain ⟨rfl, N3q, e3⟩ := hQ3
  have N3 := Fr.app N0 N3q
  have K3 : ∀ t, Steps p.tables e below (T3.setTop (mkF m 4 #[.val (.ref a0), .val (.long x1), .second, .val (.long x2), .second, .val (.long x3), .second, .val (.long x4), .second, .val (.long x5), .second, .val (.long x6), .second, .val (.long x7), .second, .val (.long x8), .second, .val (.long x9), .second, .val (.long x10), .second, .val (.long x11), .second, .val (.double x12), .second] [])) t → Steps p.tables e below G0 t := fun t kt => K2 t (st3.trans kt)
  have K4 : ∀ t, Steps p.tables e below (T3.setTop (mkF m 6 #[.val (.ref a0), .val (.long x1), .second, .val (.long x2), .second, .val (.long x3), .second, .val (.long x4), .second, .val (.long x5), .second, .val (.long x6), .second, .val (.long x7), .second, .val (.long x8), .second, .val (.long x9), .second, .val (.long x10), .second, .val (.long x11), .second, .val (.double x12), .second] [(.long x1), (.ref a0)])) t → Steps p.tables e below G0 t := by
    intro t kt
    refine K3 t ?_
    refine XS.aloadN X3.here hx rfl (hb hby d2_4) rfl rfl ?_
    show Steps p.tables e below (T3.setTop (mkF m 5 #[.val (.ref a0), .val (.long x1), .second, .val (.long x2), .second, .val (.long x3), .second, .val (.long x4), .second, .val (.long x5), .second, .val (.long x6), .second, .val (.long x7), .second, .val (.long x8), .second, .val (.long x9), .second, .val (.long x10), .second, .val (.long x11), .second, .val (.double x12), .second] [(.ref a0)])) _
    refine XS.lloadN X3.here hx rfl (hb hby d2_5) rfl ?_
    show Steps p.tables e below (T3.setTop (mkF m 6 #[.val (.ref a0), .val (.long x1), .second, .val (.long x2), .second, .val (.long x3), .second, .val (.long x4), .second, .val (.long x5), .second, .val (.long x6), .second, .val (.long x7), .second, .val (.long x8), .second, .val (.long x9), .second, .val (.long x10), .second, .val (.long x11), .second, .val (.double x12), .second] [(.long x1), (.ref a0)])) _
    exact kt
  obtain ⟨T5, h5, X5, e5, W5, st5⟩ := putF X3 hx hZ hown (host := "") (Or.inl (hw _ (List.mem_of_getElem? (i := 19) rfl))) Via.refl e3 F_lessons E0 (Or.inr ⟨(hw _ (List.mem_of_getElem? (i := 20) rfl)), rfl, hnm⟩) (hw _ (List.mem_of_getElem? (i := 2) rfl)) (ty := .long) (by decide) rfl rfl (g := (mkF m 6 #[.val (.ref a0), .val (.long x1), .second, .val (.long x2), .second, .val (.long x3), .second, .val (.long x4), .second, .val (.long x5), .second, .val (.long x6), .second, .val (.long x7), .second, .val (.long x8), .second, .val (.long x9), .second, .val (.long x10), .second, .val (.long x11), .second, .val (.double x12), .second] [(.long x1), (.ref a0)])) rfl rfl (hb hby d2_6)
  have K5 : ∀ t, Steps p.tables e below (T5.setTop (mkF m 9 #[.val (.ref a0), .val (.long x1), .second, .val (.long x2), .second, .val (.long x3), .second, .val (.long x4), .second, .val (.long x5), .second, .val (.long x6), .second, .val (.long x7), .second, .val (.long x8), .second, .val (.long x9), .second, .val (.long x10), .second, .val (.long x11), .second, .val (.double x12), .second] [])) t → Steps p.tables e below G0 t := fun t kt => K4 t (st5 _ kt)
  have Fw5 := (F_lessons).same W5
  have N5 := Fr.snoc X5 N3 gn
  have Z5 : n0 ≤ h5.size := Nat.le_trans Z0 (Keep.of_wr W5).1
  have KP5 := KP1.wr W5 (Or.inl (List.mem_of_getElem? (i := 0) rfl))
  have K6 : ∀ t, Steps p.tables e below (T5.setTop (mkF m 11 #[.val (.ref a0), .val (.long x1), .second, .val (.long x2), .second, .val (.long x3), .second, .val (.long x4), .second, .val (.long x5), .second, .val (.long x6), .second, .val (.long x7), .second, .val (.long x8), .second, .val (.long x9), .second, .val (.long x10), .second, .val (.long x11), .second, .val (.double x12), .second] [(.long x2), (.ref a0)])) t → Steps p.tables e below G0 t := by
    intro t kt
    refine K5 t ?_
    refine XS.aloadN X5.here hx rfl (hb hby d2_9) rfl rfl ?_
    show Steps p.tables e below (T5.setTop (mkF m 10 #[.val (.ref a0), .val (.long x1), .second, .val (.long x2), .second, .val (.long x3), .second, .val (.long x4), .second, .val (.long x5), .second, .val (.long x6), .second, .val (.long x7), .second, .val (.long x8), .second, .val (.long x9), .second, .val (.long x10), .second, .val (.long x11), .second, .val (.double x12), .second] [(.ref a0)])) _
    refine XS.lloadN X5.here hx rfl (hb hby d2_10) rfl ?_
    show Steps p.tables e below (T5.setTop (mkF m 11 #[.val (.ref a0), .val (.long x1), .second, .val (.long x2), .second, .val (.long x3), .second, .val (.long x4), .second, .val (.long x5), .second, .val (.long x6), .second, .val (.long x7), .second, .val (.long x8), .second, .val (.long x9), .second, .val (.long x10), .second, .val (.long x11), .second, .val (.double x12), .second] [(.long x2), (.ref a0)])) _
    exact kt
  have f7 := (F_roomClashes.other W5 (Or.inr (slot_ne (Or.inr (hw _ (List.mem_of_getElem? (i := 22) rfl))) (Or.inr (hw _ (List.mem_of_getElem? (i := 20) rfl))) (by decide) (t := .long) (t' := .long) (by decide) (by decide))))
  have f8 := (E0.wr W5)
  obtain ⟨T9, h9, X9, e9, W9, st9⟩ := putF X5 hx hZ hown (host := "") (Or.inl (hw _ (List.mem_of_getElem? (i := 21) rfl))) Via.refl e5 f7 f8 (Or.inr ⟨(hw _ (List.mem_of_getElem? (i := 22) rfl)), rfl, hnm⟩) (hw _ (List.mem_of_getElem? (i := 2) rfl)) (ty := .long) (by decide) rfl rfl (g := (mkF m 11 #[.val (.ref a0), .val (.long x1), .second, .val (.long x2), .second, .val (.long x3), .second, .val (.long x4), .second, .val (.long x5), .second, .val (.long x6), .second, .val (.long x7), .second, .val (.long x8), .second, .val (.long x9), .second, .val (.long x10), .second, .val (.long x11), .second, .val (.double x12), .second] [(.long x2), (.ref a0)])) rfl rfl (hb hby d2_11)
  have K9 : ∀ t, Steps p.tables e below (T9.setTop (mkF m 14 #[.val (.ref a0), .val (.long x1), .second, .val (.long x2), .second, .val (.long x3), .second, .val (.long x4), .second, .val (.long x5), .second, .val (.long x6), .second, .val (.long x7), .second, .val (.long x8), .second, .val (.long x9), .second, .val (.long x10), .second, .val (.long x11), .second, .val (.double x12), .second] [])) t → Steps p.tables e below G0 t := fun t kt => K6 t (st9 _ kt)
  have Fw9 := (f7).same W9
  have N9 := Fr.snoc X9 N5 gn
  have Z9 : n0 ≤ h9.size := Nat.le_trans Z5 (Keep.of_wr W9).1
  have KP9 := KP5.wr W9 (Or.inl (List.mem_of_getElem? (i := 0) rfl))
  have K10 : ∀ t, Steps p.tables e below (T9.setTop (mkF m 17 #[.val (.ref a0), .val (.long x1), .second, .val (.long x2), .second, .val (.long x3), .second, .val (.long x4), .second, .val (.long x5), .second, .val (.long x6), .second, .val (.long x7), .second, .val (.long x8), .second, .val (.long x9), .second, .val (.long x10), .second, .val (.long x11), .second, .val (.double x12), .second] [(.long x3), (.ref a0)])) t → Steps p.tables e below G0 t := by
    intro t kt
    refine K9 t ?_
    refine XS.aloadN X9.here hx rfl (hb hby d2_14) rfl rfl ?_
    show Steps p.tables e below (T9.setTop (mkF m 15 #[.val (.ref a0), .val (.long x1), .second, .val (.long x2), .second, .val (.long x3), .second, .val (.long x4), .second, .val (.long x5), .second, .val (.long x6), .second, .val (.long x7), .second, .val (.long x8), .second, .val (.long x9), .second, .val (.long x10), .second, .val (.long x11), .second, .val (.double x12), .second] [(.ref a0)])) _
    refine XS.lload X9.here hx rfl (hb hby d2_15) rfl ?_
    show Steps p.tables e below (T9.setTop (mkF m 17 #[.val (.ref a0), .val (.long x1), .second, .val (.long x2), .second, .val (.long x3), .second, .val (.long x4), .second, .val (.long x5), .second, .val (.long x6), .second, .val (.long x7), .second, .val (.long x8), .second, .val (.long x9), .second, .val (.long x10), .second, .val (.long x11), .second, .val (.double x12), .second] [(.long x3), (.ref a0)])) _
    exact kt
  have f11 := ((F_teacherClashes.other W5 (Or.inr (slot_ne (Or.inr (hw _ (List.mem_of_getElem? (i := 24) rfl))) (Or.inr (hw _ (List.mem_of_getElem? (i := 20) rfl))) (by decide) (t := .long) (t' := .long) (by decide) (by decide)))).other W9 (Or.inr (slot_ne (Or.inr (hw _ (List.mem_of_getElem? (i := 24) rfl))) (Or.inr (hw _ (List.mem_of_getElem? (i := 22) rfl))) (by decide) (t := .long) (t' := .long) (by decide) (by decide))))
  have f12 := (f8.wr W9)
  obtain ⟨T13, h13, X13, e13, W13, st13⟩ := putF X9 hx hZ hown (host := "") (Or.inl (hw _ (List.mem_of_getElem? (i := 23) rfl))) Via.refl e9 f11 f12 (Or.inr ⟨(hw _ (List.mem_of_getElem? (i := 24) rfl)), rfl, hnm⟩) (hw _ (List.mem_of_getElem? (i := 2) rfl)) (ty := .long) (by decide) rfl rfl (g := (mkF m 17 #[.val (.ref a0), .val (.long x1), .second, .val (.long x2), .second, .val (.long x3), .second, .val (.long x4), .second, .val (.long x5), .second, .val (.long x6), .second, .val (.long x7), .second, .val (.long x8), .second, .val (.long x9), .second, .val (.long x10), .second, .val (.long x11), .second, .val (.double x12), .second] [(.long x3), (.ref a0)])) rfl rfl (hb hby d2_17)
  have K13 : ∀ t, Steps p.tables e below (T13.setTop (mkF m 20 #[.val (.ref a0), .val (.long x1), .second, .val (.long x2), .second, .val (.long x3), .second, .val (.long x4), .second, .val (.long x5), .second, .val (.long x6), .second, .val (.long x7), .second, .val (.long x8), .second, .val (.long x9), .second, .val (.long x10), .second, .val (.long x11), .second, .val (.double x12), .second] [])) t → Steps p.tables e below G0 t := fun t kt => K10 t (st13 _ kt)
  have Fw13 := (f11).same W13
  have N13 := Fr.snoc X13 N9 gn
  have Z13 : n0 ≤ h13.size := Nat.le_trans Z9 (Keep.of_wr W13).1
  have KP13 := KP9.wr W13 (Or.inl (List.mem_of_getElem? (i := 0) rfl))
  have K14 : ∀ t, Steps p.tables e below (T13.setTop (mkF m 23 #[.val (.ref a0), .val (.long x1), .second, .val (.long x2), .second, .val (.long x3), .second, .val (.long x4), .second, .val (.long x5), .second, .val (.long x6), .second, .val (.long x7), .second, .val (.long x8), .second, .val (.long x9), .second, .val (.long x10), .second, .val (.long x11), .second, .val (.double x12), .second] [(.long x4), (.ref a0)])) t → Steps p.tables e below G0 t := by
    intro t kt
    refine K13 t ?_
    refine XS.aloadN X13.here hx rfl (hb hby d2_20) rfl rfl ?_
    show Steps p.tables e below (T13.setTop (mkF m 21 #[.val (.ref a0), .val (.long x1), .second, .val (.long x2), .second, .val (.long x3), .second, .val (.long x4), .second, .val (.long x5), .second, .val (.long x6), .second, .val (.long x7), .second, .val (.long x8), .second, .val (.long x9), .second, .val (.long x10), .second, .val (.long x11), .second, .val (.double x12), .second] [(.ref a0)])) _
    refine XS.lload X13.here hx rfl (hb hby d2_21) rfl ?_
    show Steps p.tables e below (T13.setTop (mkF m 23 #[.val (.ref a0), .val (.long x1), .second, .val (.long x2), .second, .val (.long x3), .second, .val (.long x4), .second, .val (.long x5), .second, .val (.long x6), .second, .val (.long x7), .second, .val (.long x8), .second, .val (.long x9), .second, .val (.long x10), .second, .val (.long x11), .second, .val (.double x12), .second] [(.long x4), (.ref a0)])) _
    exact kt
  have f15 := (((F_curriculumClashes.other W5 (Or.inr (slot_ne (Or.inr (hw _ (List.mem_of_getElem? (i := 26) rfl))) (Or.inr (hw _ (List.mem_of_getElem? (i := 20) rfl))) (by decide) (t := .long) (t' := .long) (by decide) (by decide)))).other W9 (Or.inr (slot_ne (Or.inr (hw _ (List.mem_of_getElem? (i := 26) rfl))) (Or.inr (hw _ (List.mem_of_getElem? (i := 22) rfl))) (by decide) (t := .long) (t' := .long) (by decide) (by decide)))).other W13 (Or.inr (slot_ne (Or.inr (hw _ (List.mem_of_getElem? (i := 26) rfl))) (Or.inr (hw _ (List.mem_of_getElem? (i := 24) rfl))) (by decide) (t := .long) (t' := .long) (by decide) (by decide))))
  have f16 := (f12.wr W13)
  obtain ⟨T17, h17, X17, e17, W17, st17⟩ := putF X13 hx hZ hown (host := "") (Or.inl (hw _ (List.mem_of_getElem? (i := 25) rfl))) Via.refl e13 f15 f16 (Or.inr ⟨(hw _ (List.mem_of_getElem? (i := 26) rfl)), rfl, hnm⟩) (hw _ (List.mem_of_getElem? (i := 2) rfl)) (ty := .long) (by decide) rfl rfl (g := (mkF m 23 #[.val (.ref a0), .val (.long x1), .second, .val (.long x2), .second, .val (.long x3), .second, .val (.long x4), .second, .val (.long x5), .second, .val (.long x6), .second, .val (.long x7), .second, .val (.long x8), .second, .val (.long x9), .second, .val (.long x10), .second, .val (.long x11), .second, .val (.double x12), .second] [(.long x4), (.ref a0)])) rfl rfl (hb hby d2_23)
  have K17 : ∀ t, Steps p.tables e below (T17.setTop (mkF m 26 #[.val (.ref a0), .val (.long x1), .second, .val (.long x2), .second, .val (.long x3), .second, .val (.long x4), .second, .val (.long x5), .second, .val (.long x6), .second, .val (.long x7), .second, .val (.long x8), .second, .val (.long x9), .second, .val (.long x10), .second, .val (.long x11), .second, .val (.double x12), .second] [])) t → Steps p.tables e below G0 t := fun t kt => K14 t (st17 _ kt)
  have Fw17 := (f15).same W17
  have N17 := Fr.snoc X17 N13 gn
  have Z17 : n0 ≤ h17.size := Nat.le_trans Z13 (Keep.of_wr W17).1
  have KP17 := KP13.wr W17 (Or.inl (List.mem_of_getElem? (i := 0) rfl))
  have K18 : ∀ t, Steps p.tables e below (T17.setTop (mkF m 29 #[.val (.ref a0), .val (.long x1), .second, .val (.long x2), .second, .val (.long x3), .second, .val (.long x4), .second, .val (.long x5), .second, .val (.long x6), .second, .val (.long x7), .second, .val (.long x8), .second, .val (.long x9), .second, .val (.long x10), .second, .val (.long x11), .second, .val (.double x12), .second] [(.long x5), (.ref a0)])) t → Steps p.tables e below G0 t := by
    intro t kt
    refine K17 t ?_
    refine XS.aloadN X17.here hx rfl (hb hby d2_26) rfl rfl ?_
    show Steps p.tables e below (T17.setTop (mkF m 27 #[.val (.ref a0), .val (.long x1), .second, .val (.long x2), .second, .val (.long x3), .second, .val (.long x4), .second, .val (.long x5), .second, .val (.long x6), .second, .val (.long x7), .second, .val (.long x8), .second, .val (.long x9), .second, .val (.long x10), .second, .val (.long x11), .second, .val (.double x12), .second] [(.ref a0)])) _
    refine XS.lload X17.here hx rfl (hb hby d2_27) rfl ?_
    show Steps p.tables e below (T17.setTop (mkF m 29 #[.val (.ref a0), .val (.long x1), .second, .val (.long x2), .second, .val (.long x3), .second, .val (.long x4), .second, .val (.long x5), .second, .val (.long x6), .second, .val (.long x7), .second, .val (.long x8), .second, .val (.long x9), .second, .val (.long x10), .second, .val (.long x11), .second, .val (.double x12), .second] [(.long x5), (.ref a0)])) _
    exact kt
  have f19 := ((((F_unavailable.other W5 (Or.inr (slot_ne (Or.inr (hw _ (List.mem_of_getElem? (i := 28) rfl))) (Or.inr (hw _ (List.mem_of_getElem? (i := 20) rfl))) (by decide) (t := .long) (t' := .long) (by decide) (by decide)))).other W9 (Or.inr (slot_ne (Or.inr (hw _ (List.mem_of_getElem? (i := 28) rfl))) (Or.inr (hw _ (List.mem_of_getElem? (i := 22) rfl))) (by decide) (t := .long) (t' := .long) (by decide) (by decide)))).other W13 (Or.inr (slot_ne (Or.inr (hw _ (List.mem_of_getElem? (i := 28) rfl))) (Or.inr (hw _ (List.mem_of_getElem? (i := 24) rfl))) (by decide) (t := .long) (t' := .long) (by decide) (by decide)))).other W17 (Or.inr (slot_ne (Or.inr (hw _ (List.mem_of_getElem? (i := 28) rfl))) (Or.inr (hw _ (List.mem_of_getElem? (i := 26) rfl))) (by decide) (t := .long) (t' := .long) (by decide) (by decide))))
  have f20 := (f16.wr W17)
  obtain ⟨T21, h21, X21, e21, W21, st21⟩ := putF X17 hx hZ hown (host := "") (Or.inl (hw _ (List.mem_of_getElem? (i := 27) rfl))) Via.refl e17 f19 f20 (Or.inr ⟨(hw _ (List.mem_of_getElem? (i := 28) rfl)), rfl, hnm⟩) (hw _ (List.mem_of_getElem? (i := 2) rfl)) (ty := .long) (by decide) rfl rfl (g := (mkF m 29 #[.val (.ref a0), .val (.long x1), .second, .val (.long x2), .second, .val (.long x3), .second, .val (.long x4), .second, .val (.long x5), .second, .val (.long x6), .second, .val (.long x7), .second, .val (.long x8), .second, .val (.long x9), .second, .val (.long x10), .second, .val (.long x11), .second, .val (.double x12), .second] [(.long x5), (.ref a0)])) rfl rfl (hb hby d2_29)
  have K21 : ∀ t, Steps p.tables e below (T21.setTop (mkF m 32 #[.val (.ref a0), .val (.long x1), .second, .val (.long x2), .second, .val (.long x3), .second, .val (.long x4), .second, .val (.long x5), .second, .val (.long x6), .second, .val (.long x7), .second, .val (.long x8), .second, .val (.long x9), .second, .val (.long x10), .second, .val (.long x11), .second, .val (.double x12), .second] [])) t → Steps p.tables e below G0 t := fun t kt => K18 t (st21 _ kt)
  have Fw21 := (f19).same W21
  have N21 := Fr.snoc X21 N17 gn
  have Z21 : n0 ≤ h21.size := Nat.le_trans Z17 (Keep.of_wr W21).1
  have KP21 := KP17.wr W21 (Or.inl (List.mem_of_getElem? (i := 0) rfl))
  have K22 : ∀ t, Steps p.tables e below (T21.setTop (mkF m 35 #[.val (.ref a0), .val (.long x1), .second, .val (.long x2), .second, .val (.long x3), .second, .val (.long x4), .second, .val (.long x5), .second, .val (.long x6), .second, .val (.long x7), .second, .val (.long x8), .second, .val (.long x9), .second, .val (.long x10), .second, .val (.long x11), .second, .val (.double x12), .second] [(.long x6), (.ref a0)])) t → Steps p.tables e below G0 t := by
    intro t kt
    refine K21 t ?_
    refine XS.aloadN X21.here hx rfl (hb hby d2_32) rfl rfl ?_
    show Steps p.tables e below (T21.setTop (mkF m 33 #[.val (.ref a0), .val (.long x1), .second, .val (.long x2), .second, .val (.long x3), .second, .val (.long x4), .second, .val (.long x5), .second, .val (.long x6), .second, .val (.long x7), .second, .val (.long x8), .second, .val (.long x9), .second, .val (.long x10), .second, .val (.long x11), .second, .val (.double x12), .second] [(.ref a0)])) _
    refine XS.lload X21.here hx rfl (hb hby d2_33) rfl ?_
    show Steps p.tables e below (T21.setTop (mkF m 35 #[.val (.ref a0), .val (.long x1), .second, .val (.long x2), .second, .val (.long x3), .second, .val (.long x4), .second, .val (.long x5), .second, .val (.long x6), .second, .val (.long x7), .second, .val (.long x8), .second, .val (.long x9), .second, .val (.long x10), .second, .val (.long x11), .second, .val (.double x12), .second] [(.long x6), (.ref a0)])) _
    exact kt
  have f23 := (((((F_unqualified.other W5 (Or.inr (slot_ne (Or.inr (hw _ (List.mem_of_getElem? (i := 30) rfl))) (Or.inr (hw _ (List.mem_of_getElem? (i := 20) rfl))) (by decide) (t := .long) (t' := .long) (by decide) (by decide)))).other W9 (Or.inr (slot_ne (Or.inr (hw _ (List.mem_of_getElem? (i := 30) rfl))) (Or.inr (hw _ (List.mem_of_getElem? (i := 22) rfl))) (by decide) (t := .long) (t' := .long) (by decide) (by decide)))).other W13 (Or.inr (slot_ne (Or.inr (hw _ (List.mem_of_getElem? (i := 30) rfl))) (Or.inr (hw _ (List.mem_of_getElem? (i := 24) rfl))) (by decide) (t := .long) (t' := .long) (by decide) (by decide)))).other W17 (Or.inr (slot_ne (Or.inr (hw _ (List.mem_of_getElem? (i := 30) rfl))) (Or.inr (hw _ (List.mem_of_getElem? (i := 26) rfl))) (by decide) (t := .long) (t' := .long) (by decide) (by decide)))).other W21 (Or.inr (slot_ne (Or.inr (hw _ (List.mem_of_getElem? (i := 30) rfl))) (Or.inr (hw _ (List.mem_of_getElem? (i := 28) rfl))) (by decide) (t := .long) (t' := .long) (by decide) (by decide))))
  have f24 := (f20.wr W21)
  obtain ⟨T25, h25, X25, e25, W25, st25⟩ := putF X21 hx hZ hown (host := "") (Or.inl (hw _ (List.mem_of_getElem? (i := 29) rfl))) Via.refl e21 f23 f24 (Or.inr ⟨(hw _ (List.mem_of_getElem? (i := 30) rfl)), rfl, hnm⟩) (hw _ (List.mem_of_getElem? (i := 2) rfl)) (ty := .long) (by decide) rfl rfl (g := (mkF m 35 #[.val (.ref a0), .val (.long x1), .second, .val (.long x2), .second, .val (.long x3), .second, .val (.long x4), .second, .val (.long x5), .second, .val (.long x6), .second, .val (.long x7), .second, .val (.long x8), .second, .val (.long x9), .second, .val (.long x10), .second, .val (.long x11), .second, .val (.double x12), .second] [(.long x6), (.ref a0)])) rfl rfl (hb hby d2_35)
  have K25 : ∀ t, Steps p.tables e below (T25.setTop (mkF m 38 #[.val (.ref a0), .val (.long x1), .second, .val (.long x2), .second, .val (.long x3), .second, .val (.long x4), .second, .val (.long x5), .second, .val (.long x6), .second, .val (.long x7), .second, .val (.long x8), .second, .val (.long x9), .second, .val (.long x10), .second, .val (.long x11), .second, .val (.double x12), .second] [])) t → Steps p.tables e below G0 t := fun t kt => K22 t (st25 _ kt)
  have Fw25 := (f23).same W25
  have N25 := Fr.snoc X25 N21 gn
  have Z25 : n0 ≤ h25.size := Nat.le_trans Z21 (Keep.of_wr W25).1
  have KP25 := KP21.wr W25 (Or.inl (List.mem_of_getElem? (i := 0) rfl))
  have K26 : ∀ t, Steps p.tables e below (T25.setTop (mkF m 41 #[.val (.ref a0), .val (.long x1), .second, .val (.long x2), .second, .val (.long x3), .second, .val (.long x4), .second, .val (.long x5), .second, .val (.long x6), .second, .val (.long x7), .second, .val (.long x8), .second, .val (.long x9), .second, .val (.long x10), .second, .val (.long x11), .second, .val (.double x12), .second] [(.long x7), (.ref a0)])) t → Steps p.tables e below G0 t := by
    intro t kt
    refine K25 t ?_
    refine XS.aloadN X25.here hx rfl (hb hby d2_38) rfl rfl ?_
    show Steps p.tables e below (T25.setTop (mkF m 39 #[.val (.ref a0), .val (.long x1), .second, .val (.long x2), .second, .val (.long x3), .second, .val (.long x4), .second, .val (.long x5), .second, .val (.long x6), .second, .val (.long x7), .second, .val (.long x8), .second, .val (.long x9), .second, .val (.long x10), .second, .val (.long x11), .second, .val (.double x12), .second] [(.ref a0)])) _
    refine XS.lload X25.here hx rfl (hb hby d2_39) rfl ?_
    show Steps p.tables e below (T25.setTop (mkF m 41 #[.val (.ref a0), .val (.long x1), .second, .val (.long x2), .second, .val (.long x3), .second, .val (.long x4), .second, .val (.long x5), .second, .val (.long x6), .second, .val (.long x7), .second, .val (.long x8), .second, .val (.long x9), .second, .val (.long x10), .second, .val (.long x11), .second, .val (.double x12), .second] [(.long x7), (.ref a0)])) _
    exact kt
  have f27 := ((((((F_splitTeacher.other W5 (Or.inr (slot_ne (Or.inr (hw _ (List.mem_of_getElem? (i := 32) rfl))) (Or.inr (hw _ (List.mem_of_getElem? (i := 20) rfl))) (by decide) (t := .long) (t' := .long) (by decide) (by decide)))).other W9 (Or.inr (slot_ne (Or.inr (hw _ (List.mem_of_getElem? (i := 32) rfl))) (Or.inr (hw _ (List.mem_of_getElem? (i := 22) rfl))) (by decide) (t := .long) (t' := .long) (by decide) (by decide)))).other W13 (Or.inr (slot_ne (Or.inr (hw _ (List.mem_of_getElem? (i := 32) rfl))) (Or.inr (hw _ (List.mem_of_getElem? (i := 24) rfl))) (by decide) (t := .long) (t' := .long) (by decide) (by decide)))).other W17 (Or.inr (slot_ne (Or.inr (hw _ (List.mem_of_getElem? (i := 32) rfl))) (Or.inr (hw _ (List.mem_of_getElem? (i := 26) rfl))) (by decide) (t := .long) (t' := .long) (by decide) (by decide)))).other W21 (Or.inr (slot_ne (Or.inr (hw _ (List.mem_of_getElem? (i := 32) rfl))) (Or.inr (hw _ (List.mem_of_getElem? (i := 28) rfl))) (by decide) (t := .long) (t' := .long) (by decide) (by decide)))).other W25 (Or.inr (slot_ne (Or.inr (hw _ (List.mem_of_getElem? (i := 32) rfl))) (Or.inr (hw _ (List.mem_of_getElem? (i := 30) rfl))) (by decide) (t := .long) (t' := .long) (by decide) (by decide))))
  have f28 := (f24.wr W25)
  obtain ⟨T29, h29, X29, e29, W29, st29⟩ := putF X25 hx hZ hown (host := "") (Or.inl (hw _ (List.mem_of_getElem? (i := 31) rfl))) Via.refl e25 f27 f28 (Or.inr ⟨(hw _ (List.mem_of_getElem? (i := 32) rfl)), rfl, hnm⟩) (hw _ (List.mem_of_getElem? (i := 2) rfl)) (ty := .long) (by decide) rfl rfl (g := (mkF m 41 #[.val (.ref a0), .val (.long x1), .second, .val (.long x2), .second, .val (.long x3), .second, .val (.long x4), .second, .val (.long x5), .second, .val (.long x6), .second, .val (.long x7), .second, .val (.long x8), .second, .val (.long x9), .second, .val (.long x10), .second, .val (.long x11), .second, .val (.double x12), .second] [(.long x7), (.ref a0)])) rfl rfl (hb hby d2_41)
  have K29 : ∀ t, Steps p.tables e below (T29.setTop (mkF m 44 #[.val (.ref a0), .val (.long x1), .second, .val (.long x2), .second, .val (.long x3), .second, .val (.long x4), .second, .val (.long x5), .second, .val (.long x6), .second, .val (.long x7), .second, .val (.long x8), .second, .val (.long x9), .second, .val (.long x10), .second, .val (.long x11), .second, .val (.double x12), .second] [])) t → Steps p.tables e below G0 t := fun t kt => K26 t (st29 _ kt)
  have Fw29 := (f27).same W29
  have N29 := Fr.snoc X29 N25 gn
  have Z29 : n0 ≤ h29.size := Nat.le_trans Z25 (Keep.of_wr W29).1
  have KP29 := KP25.wr W29 (Or.inl (List.mem_of_getElem? (i := 0) rfl))
  have K30 : ∀ t, Steps p.tables e below (T29.setTop (mkF m 47 #[.val (.ref a0), .val (.long x1), .second, .val (.long x2), .second, .val (.long x3), .second, .val (.long x4), .second, .val (.long x5), .second, .val (.long x6), .second, .val (.long x7), .second, .val (.long x8), .second, .val (.long x9), .second, .val (.long x10), .second, .val (.long x11), .second, .val (.double x12), .second] [(.long x8), (.ref a0)])) t → Steps p.tables e below G0 t := by
    intro t kt
    refine K29 t ?_
    refine XS.aloadN X29.here hx rfl (hb hby d2_44) rfl rfl ?_
    show Steps p.tables e below (T29.setTop (mkF m 45 #[.val (.ref a0), .val (.long x1), .second, .val (.long x2), .second, .val (.long x3), .second, .val (.long x4), .second, .val (.long x5), .second, .val (.long x6), .second, .val (.long x7), .second, .val (.long x8), .second, .val (.long x9), .second, .val (.long x10), .second, .val (.long x11), .second, .val (.double x12), .second] [(.ref a0)])) _
    refine XS.lload X29.here hx rfl (hb hby d2_45) rfl ?_
    show Steps p.tables e below (T29.setTop (mkF m 47 #[.val (.ref a0), .val (.long x1), .second, .val (.long x2), .second, .val (.long x3), .second, .val (.long x4), .second, .val (.long x5), .second, .val (.long x6), .second, .val (.long x7), .second, .val (.long x8), .second, .val (.long x9), .second, .val (.long x10), .second, .val (.long x11), .second, .val (.double x12), .second] [(.long x8), (.ref a0)])) _
    exact kt
  have f31 := (((((((F_wrongRoom.other W5 (Or.inr (slot_ne (Or.inr (hw _ (List.mem_of_getElem? (i := 34) rfl))) (Or.inr (hw _ (List.mem_of_getElem? (i := 20) rfl))) (by decide) (t := .long) (t' := .long) (by decide) (by decide)))).other W9 (Or.inr (slot_ne (Or.inr (hw _ (List.mem_of_getElem? (i := 34) rfl))) (Or.inr (hw _ (List.mem_of_getElem? (i := 22) rfl))) (by decide) (t := .long) (t' := .long) (by decide) (by decide)))).other W13 (Or.inr (slot_ne (Or.inr (hw _ (List.mem_of_getElem? (i := 34) rfl))) (Or.inr (hw _ (List.mem_of_getElem? (i := 24) rfl))) (by decide) (t := .long) (t' := .long) (by decide) (by decide)))).other W17 (Or.inr (slot_ne (Or.inr (hw _ (List.mem_of_getElem? (i := 34) rfl))) (Or.inr (hw _ (List.mem_of_getElem? (i := 26) rfl))) (by decide) (t := .long) (t' := .long) (by decide) (by decide)))).other W21 (Or.inr (slot_ne (Or.inr (hw _ (List.mem_of_getElem? (i := 34) rfl))) (Or.inr (hw _ (List.mem_of_getElem? (i := 28) rfl))) (by decide) (t := .long) (t' := .long) (by decide) (by decide)))).other W25 (Or.inr (slot_ne (Or.inr (hw _ (List.mem_of_getElem? (i := 34) rfl))) (Or.inr (hw _ (List.mem_of_getElem? (i := 30) rfl))) (by decide) (t := .long) (t' := .long) (by decide) (by decide)))).other W29 (Or.inr (slot_ne (Or.inr (hw _ (List.mem_of_getElem? (i := 34) rfl))) (Or.inr (hw _ (List.mem_of_getElem? (i := 32) rfl))) (by decide) (t := .long) (t' := .long) (by decide) (by decide))))
  have f32 := (f28.wr W29)
  obtain ⟨T33, h33, X33, e33, W33, st33⟩ := putF X29 hx hZ hown (host := "") (Or.inl (hw _ (List.mem_of_getElem? (i := 33) rfl))) Via.refl e29 f31 f32 (Or.inr ⟨(hw _ (List.mem_of_getElem? (i := 34) rfl)), rfl, hnm⟩) (hw _ (List.mem_of_getElem? (i := 2) rfl)) (ty := .long) (by decide) rfl rfl (g := (mkF m 47 #[.val (.ref a0), .val (.long x1), .second, .val (.long x2), .second, .val (.long x3), .second, .val (.long x4), .second, .val (.long x5), .second, .val (.long x6), .second, .val (.long x7), .second, .val (.long x8), .second, .val (.long x9), .second, .val (.long x10), .second, .val (.long x11), .second, .val (.double x12), .second] [(.long x8), (.ref a0)])) rfl rfl (hb hby d2_47)
  have K33 : ∀ t, Steps p.tables e below (T33.setTop (mkF m 50 #[.val (.ref a0), .val (.long x1), .second, .val (.long x2), .second, .val (.long x3), .second, .val (.long x4), .second, .val (.long x5), .second, .val (.long x6), .second, .val (.long x7), .second, .val (.long x8), .second, .val (.long x9), .second, .val (.long x10), .second, .val (.long x11), .second, .val (.double x12), .second] [])) t → Steps p.tables e below G0 t := fun t kt => K30 t (st33 _ kt)
  have Fw33 := (f31).same W33
  have N33 := Fr.snoc X33 N29 gn
  have Z33 : n0 ≤ h33.size := Nat.le_trans Z29 (Keep.of_wr W33).1
  have KP33 := KP29.wr W33 (Or.inl (List.mem_of_getElem? (i := 0) rfl))
  have K34 : ∀ t, Steps p.tables e below (T33.setTop (mkF m 53 #[.val (.ref a0), .val (.long x1), .second, .val (.long x2), .second, .val (.long x3), .second, .val (.long x4), .second, .val (.long x5), .second, .val (.long x6), .second, .val (.long x7), .second, .val (.long x8), .second, .val (.long x9), .second, .val (.long x10), .second, .val (.long x11), .second, .val (.double x12), .second] [(.long x9), (.ref a0)])) t → Steps p.tables e below G0 t := by
    intro t kt
    refine K33 t ?_
    refine XS.aloadN X33.here hx rfl (hb hby d2_50) rfl rfl ?_
    show Steps p.tables e below (T33.setTop (mkF m 51 #[.val (.ref a0), .val (.long x1), .second, .val (.long x2), .second, .val (.long x3), .second, .val (.long x4), .second, .val (.long x5), .second, .val (.long x6), .second, .val (.long x7), .second, .val (.long x8), .second, .val (.long x9), .second, .val (.long x10), .second, .val (.long x11), .second, .val (.double x12), .second] [(.ref a0)])) _
    refine XS.lload X33.here hx rfl (hb hby d2_51) rfl ?_
    show Steps p.tables e below (T33.setTop (mkF m 53 #[.val (.ref a0), .val (.long x1), .second, .val (.long x2), .second, .val (.long x3), .second, .val (.long x4), .second, .val (.long x5), .second, .val (.long x6), .second, .val (.long x7), .second, .val (.long x8), .second, .val (.long x9), .second, .val (.long x10), .second, .val (.long x11), .second, .val (.double x12), .second] [(.long x9), (.ref a0)])) _
    exact kt
  have f35 := ((((((((F_wrongShift.other W5 (Or.inr (slot_ne (Or.inr (hw _ (List.mem_of_getElem? (i := 36) rfl))) (Or.inr (hw _ (List.mem_of_getElem? (i := 20) rfl))) (by decide) (t := .long) (t' := .long) (by decide) (by decide)))).other W9 (Or.inr (slot_ne (Or.inr (hw _ (List.mem_of_getElem? (i := 36) rfl))) (Or.inr (hw _ (List.mem_of_getElem? (i := 22) rfl))) (by decide) (t := .long) (t' := .long) (by decide) (by decide)))).other W13 (Or.inr (slot_ne (Or.inr (hw _ (List.mem_of_getElem? (i := 36) rfl))) (Or.inr (hw _ (List.mem_of_getElem? (i := 24) rfl))) (by decide) (t := .long) (t' := .long) (by decide) (by decide)))).other W17 (Or.inr (slot_ne (Or.inr (hw _ (List.mem_of_getElem? (i := 36) rfl))) (Or.inr (hw _ (List.mem_of_getElem? (i := 26) rfl))) (by decide) (t := .long) (t' := .long) (by decide) (by decide)))).other W21 (Or.inr (slot_ne (Or.inr (hw _ (List.mem_of_getElem? (i := 36) rfl))) (Or.inr (hw _ (List.mem_of_getElem? (i := 28) rfl))) (by decide) (t := .long) (t' := .long) (by decide) (by decide)))).other W25 (Or.inr (slot_ne (Or.inr (hw _ (List.mem_of_getElem? (i := 36) rfl))) (Or.inr (hw _ (List.mem_of_getElem? (i := 30) rfl))) (by decide) (t := .long) (t' := .long) (by decide) (by decide)))).other W29 (Or.inr (slot_ne (Or.inr (hw _ (List.mem_of_getElem? (i := 36) rfl))) (Or.inr (hw _ (List.mem_of_getElem? (i := 32) rfl))) (by decide) (t := .long) (t' := .long) (by decide) (by decide)))).other W33 (Or.inr (slot_ne (Or.inr (hw _ (List.mem_of_getElem? (i := 36) rfl))) (Or.inr (hw _ (List.mem_of_getElem? (i := 34) rfl))) (by decide) (t := .long) (t' := .long) (by decide) (by decide))))
  have f36 := (f32.wr W33)
  obtain ⟨T37, h37, X37, e37, W37, st37⟩ := putF X33 hx hZ hown (host := "") (Or.inl (hw _ (List.mem_of_getElem? (i := 35) rfl))) Via.refl e33 f35 f36 (Or.inr ⟨(hw _ (List.mem_of_getElem? (i := 36) rfl)), rfl, hnm⟩) (hw _ (List.mem_of_getElem? (i := 2) rfl)) (ty := .long) (by decide) rfl rfl (g := (mkF m 53 #[.val (.ref a0), .val (.long x1), .second, .val (.long x2), .second, .val (.long x3), .second, .val (.long x4), .second, .val (.long x5), .second, .val (.long x6), .second, .val (.long x7), .second, .val (.long x8), .second, .val (.long x9), .second, .val (.long x10), .second, .val (.long x11), .second, .val (.double x12), .second] [(.long x9), (.ref a0)])) rfl rfl (hb hby d2_53)
  have K37 : ∀ t, Steps p.tables e below (T37.setTop (mkF m 56 #[.val (.ref a0), .val (.long x1), .second, .val (.long x2), .second, .val (.long x3), .second, .val (.long x4), .second, .val (.long x5), .second, .val (.long x6), .second, .val (.long x7), .second, .val (.long x8), .second, .val (.long x9), .second, .val (.long x10), .second, .val (.long x11), .second, .val (.double x12), .second] [])) t → Steps p.tables e below G0 t := fun t kt => K34 t (st37 _ kt)
  have Fw37 := (f35).same W37
  have N37 := Fr.snoc X37 N33 gn
  have Z37 : n0 ≤ h37.size := Nat.le_trans Z33 (Keep.of_wr W37).1
  have KP37 := KP33.wr W37 (Or.inl (List.mem_of_getElem? (i := 0) rfl))
  have K38 : ∀ t, Steps p.tables e below (T37.setTop (mkF m 59 #[.val (.ref a0), .val (.long x1), .second, .val (.long x2), .second, .val (.long x3), .second, .val (.long x4), .second, .val (.long x5), .second, .val (.long x6), .second, .val (.long x7), .second, .val (.long x8), .second, .val (.long x9), .second, .val (.long x10), .second, .val (.long x11), .second, .val (.double x12), .second] [(.long x10), (.ref a0)])) t → Steps p.tables e below G0 t := by
    intro t kt
    refine K37 t ?_
    refine XS.aloadN X37.here hx rfl (hb hby d2_56) rfl rfl ?_
    show Steps p.tables e below (T37.setTop (mkF m 57 #[.val (.ref a0), .val (.long x1), .second, .val (.long x2), .second, .val (.long x3), .second, .val (.long x4), .second, .val (.long x5), .second, .val (.long x6), .second, .val (.long x7), .second, .val (.long x8), .second, .val (.long x9), .second, .val (.long x10), .second, .val (.long x11), .second, .val (.double x12), .second] [(.ref a0)])) _
    refine XS.lload X37.here hx rfl (hb hby d2_57) rfl ?_
    show Steps p.tables e below (T37.setTop (mkF m 59 #[.val (.ref a0), .val (.long x1), .second, .val (.long x2), .second, .val (.long x3), .second, .val (.long x4), .second, .val (.long x5), .second, .val (.long x6), .second, .val (.long x7), .second, .val (.long x8), .second, .val (.long x9), .second, .val (.long x10), .second, .val (.long x11), .second, .val (.double x12), .second] [(.long x10), (.ref a0)])) _
    exact kt
  have f39 := (((((((((F_placed.other W5 (Or.inr (slot_ne (Or.inr (hw _ (List.mem_of_getElem? (i := 38) rfl))) (Or.inr (hw _ (List.mem_of_getElem? (i := 20) rfl))) (by decide) (t := .long) (t' := .long) (by decide) (by decide)))).other W9 (Or.inr (slot_ne (Or.inr (hw _ (List.mem_of_getElem? (i := 38) rfl))) (Or.inr (hw _ (List.mem_of_getElem? (i := 22) rfl))) (by decide) (t := .long) (t' := .long) (by decide) (by decide)))).other W13 (Or.inr (slot_ne (Or.inr (hw _ (List.mem_of_getElem? (i := 38) rfl))) (Or.inr (hw _ (List.mem_of_getElem? (i := 24) rfl))) (by decide) (t := .long) (t' := .long) (by decide) (by decide)))).other W17 (Or.inr (slot_ne (Or.inr (hw _ (List.mem_of_getElem? (i := 38) rfl))) (Or.inr (hw _ (List.mem_of_getElem? (i := 26) rfl))) (by decide) (t := .long) (t' := .long) (by decide) (by decide)))).other W21 (Or.inr (slot_ne (Or.inr (hw _ (List.mem_of_getElem? (i := 38) rfl))) (Or.inr (hw _ (List.mem_of_getElem? (i := 28) rfl))) (by decide) (t := .long) (t' := .long) (by decide) (by decide)))).other W25 (Or.inr (slot_ne (Or.inr (hw _ (List.mem_of_getElem? (i := 38) rfl))) (Or.inr (hw _ (List.mem_of_getElem? (i := 30) rfl))) (by decide) (t := .long) (t' := .long) (by decide) (by decide)))).other W29 (Or.inr (slot_ne (Or.inr (hw _ (List.mem_of_getElem? (i := 38) rfl))) (Or.inr (hw _ (List.mem_of_getElem? (i := 32) rfl))) (by decide) (t := .long) (t' := .long) (by decide) (by decide)))).other W33 (Or.inr (slot_ne (Or.inr (hw _ (List.mem_of_getElem? (i := 38) rfl))) (Or.inr (hw _ (List.mem_of_getElem? (i := 34) rfl))) (by decide) (t := .long) (t' := .long) (by decide) (by decide)))).other W37 (Or.inr (slot_ne (Or.inr (hw _ (List.mem_of_getElem? (i := 38) rfl))) (Or.inr (hw _ (List.mem_of_getElem? (i := 36) rfl))) (by decide) (t := .long) (t' := .long) (by decide) (by decide))))
  have f40 := (f36.wr W37)
  obtain ⟨T41, h41, X41, e41, W41, st41⟩ := putF X37 hx hZ hown (host := "") (Or.inl (hw _ (List.mem_of_getElem? (i := 37) rfl))) Via.refl e37 f39 f40 (Or.inr ⟨(hw _ (List.mem_of_getElem? (i := 38) rfl)), rfl, hnm⟩) (hw _ (List.mem_of_getElem? (i := 2) rfl)) (ty := .long) (by decide) rfl rfl (g := (mkF m 59 #[.val (.ref a0), .val (.long x1), .second, .val (.long x2), .second, .val (.long x3), .second, .val (.long x4), .second, .val (.long x5), .second, .val (.long x6), .second, .val (.long x7), .second, .val (.long x8), .second, .val (.long x9), .second, .val (.long x10), .second, .val (.long x11), .second, .val (.double x12), .second] [(.long x10), (.ref a0)])) rfl rfl (hb hby d2_59)
  have K41 : ∀ t, Steps p.tables e below (T41.setTop (mkF m 62 #[.val (.ref a0), .val (.long x1), .second, .val (.long x2), .second, .val (.long x3), .second, .val (.long x4), .second, .val (.long x5), .second, .val (.long x6), .second, .val (.long x7), .second, .val (.long x8), .second, .val (.long x9), .second, .val (.long x10), .second, .val (.long x11), .second, .val (.double x12), .second] [])) t → Steps p.tables e below G0 t := fun t kt => K38 t (st41 _ kt)
  have Fw41 := (f39).same W41
  have N41 := Fr.snoc X41 N37 gn
  have Z41 : n0 ≤ h41.size := Nat.le_trans Z37 (Keep.of_wr W41).1
  have KP41 := KP37.wr W41 (Or.inl (List.mem_of_getElem? (i := 0) rfl))
  have K42 : ∀ t, Steps p.tables e below (T41.setTop (mkF m 65 #[.val (.ref a0), .val (.long x1), .second, .val (.long x2), .second, .val (.long x3), .second, .val (.long x4), .second, .val (.long x5), .second, .val (.long x6), .second, .val (.long x7), .second, .val (.long x8), .second, .val (.long x9), .second, .val (.long x10), .second, .val (.long x11), .second, .val (.double x12), .second] [(.long x11), (.ref a0)])) t → Steps p.tables e below G0 t := by
    intro t kt
    refine K41 t ?_
    refine XS.aloadN X41.here hx rfl (hb hby d2_62) rfl rfl ?_
    show Steps p.tables e below (T41.setTop (mkF m 63 #[.val (.ref a0), .val (.long x1), .second, .val (.long x2), .second, .val (.long x3), .second, .val (.long x4), .second, .val (.long x5), .second, .val (.long x6), .second, .val (.long x7), .second, .val (.long x8), .second, .val (.long x9), .second, .val (.long x10), .second, .val (.long x11), .second, .val (.double x12), .second] [(.ref a0)])) _
    refine XS.lload X41.here hx rfl (hb hby d2_63) rfl ?_
    show Steps p.tables e below (T41.setTop (mkF m 65 #[.val (.ref a0), .val (.long x1), .second, .val (.long x2), .second, .val (.long x3), .second, .val (.long x4), .second, .val (.long x5), .second, .val (.long x6), .second, .val (.long x7), .second, .val (.long x8), .second, .val (.long x9), .second, .val (.long x10), .second, .val (.long x11), .second, .val (.double x12), .second] [(.long x11), (.ref a0)])) _
    exact kt
  have f43 := ((((((((((F_preferred.other W5 (Or.inr (slot_ne (Or.inr (hw _ (List.mem_of_getElem? (i := 40) rfl))) (Or.inr (hw _ (List.mem_of_getElem? (i := 20) rfl))) (by decide) (t := .long) (t' := .long) (by decide) (by decide)))).other W9 (Or.inr (slot_ne (Or.inr (hw _ (List.mem_of_getElem? (i := 40) rfl))) (Or.inr (hw _ (List.mem_of_getElem? (i := 22) rfl))) (by decide) (t := .long) (t' := .long) (by decide) (by decide)))).other W13 (Or.inr (slot_ne (Or.inr (hw _ (List.mem_of_getElem? (i := 40) rfl))) (Or.inr (hw _ (List.mem_of_getElem? (i := 24) rfl))) (by decide) (t := .long) (t' := .long) (by decide) (by decide)))).other W17 (Or.inr (slot_ne (Or.inr (hw _ (List.mem_of_getElem? (i := 40) rfl))) (Or.inr (hw _ (List.mem_of_getElem? (i := 26) rfl))) (by decide) (t := .long) (t' := .long) (by decide) (by decide)))).other W21 (Or.inr (slot_ne (Or.inr (hw _ (List.mem_of_getElem? (i := 40) rfl))) (Or.inr (hw _ (List.mem_of_getElem? (i := 28) rfl))) (by decide) (t := .long) (t' := .long) (by decide) (by decide)))).other W25 (Or.inr (slot_ne (Or.inr (hw _ (List.mem_of_getElem? (i := 40) rfl))) (Or.inr (hw _ (List.mem_of_getElem? (i := 30) rfl))) (by decide) (t := .long) (t' := .long) (by decide) (by decide)))).other W29 (Or.inr (slot_ne (Or.inr (hw _ (List.mem_of_getElem? (i := 40) rfl))) (Or.inr (hw _ (List.mem_of_getElem? (i := 32) rfl))) (by decide) (t := .long) (t' := .long) (by decide) (by decide)))).other W33 (Or.inr (slot_ne (Or.inr (hw _ (List.mem_of_getElem? (i := 40) rfl))) (Or.inr (hw _ (List.mem_of_getElem? (i := 34) rfl))) (by decide) (t := .long) (t' := .long) (by decide) (by decide)))).other W37 (Or.inr (slot_ne (Or.inr (hw _ (List.mem_of_getElem? (i := 40) rfl))) (Or.inr (hw _ (List.mem_of_getElem? (i := 36) rfl))) (by decide) (t := .long) (t' := .long) (by decide) (by decide)))).other W41 (Or.inr (slot_ne (Or.inr (hw _ (List.mem_of_getElem? (i := 40) rfl))) (Or.inr (hw _ (List.mem_of_getElem? (i := 38) rfl))) (by decide) (t := .long) (t' := .long) (by decide) (by decide))))
  have f44 := (f40.wr W41)
  obtain ⟨T45, h45, X45, e45, W45, st45⟩ := putF X41 hx hZ hown (host := "") (Or.inl (hw _ (List.mem_of_getElem? (i := 39) rfl))) Via.refl e41 f43 f44 (Or.inr ⟨(hw _ (List.mem_of_getElem? (i := 40) rfl)), rfl, hnm⟩) (hw _ (List.mem_of_getElem? (i := 2) rfl)) (ty := .long) (by decide) rfl rfl (g := (mkF m 65 #[.val (.ref a0), .val (.long x1), .second, .val (.long x2), .second, .val (.long x3), .second, .val (.long x4), .second, .val (.long x5), .second, .val (.long x6), .second, .val (.long x7), .second, .val (.long x8), .second, .val (.long x9), .second, .val (.long x10), .second, .val (.long x11), .second, .val (.double x12), .second] [(.long x11), (.ref a0)])) rfl rfl (hb hby d2_65)
  have K45 : ∀ t, Steps p.tables e below (T45.setTop (mkF m 68 #[.val (.ref a0), .val (.long x1), .second, .val (.long x2), .second, .val (.long x3), .second, .val (.long x4), .second, .val (.long x5), .second, .val (.long x6), .second, .val (.long x7), .second, .val (.long x8), .second, .val (.long x9), .second, .val (.long x10), .second, .val (.long x11), .second, .val (.double x12), .second] [])) t → Steps p.tables e below G0 t := fun t kt => K42 t (st45 _ kt)
  have Fw45 := (f43).same W45
  have N45 := Fr.snoc X45 N41 gn
  have Z45 : n0 ≤ h45.size := Nat.le_trans Z41 (Keep.of_wr W45).1
  have KP45 := KP41.wr W45 (Or.inl (List.mem_of_getElem? (i := 0) rfl))
  have K46 : ∀ t, Steps p.tables e below (T45.setTop (mkF m 71 #[.val (.ref a0), .val (.long x1), .second, .val (.long x2), .second, .val (.long x3), .second, .val (.long x4), .second, .val (.long x5), .second, .val (.long x6), .second, .val (.long x7), .second, .val (.long x8), .second, .val (.long x9), .second, .val (.long x10), .second, .val (.long x11), .second, .val (.double x12), .second] [(.double x12), (.ref a0)])) t → Steps p.tables e below G0 t := by
    intro t kt
    refine K45 t ?_
    refine XS.aloadN X45.here hx rfl (hb hby d2_68) rfl rfl ?_
    show Steps p.tables e below (T45.setTop (mkF m 69 #[.val (.ref a0), .val (.long x1), .second, .val (.long x2), .second, .val (.long x3), .second, .val (.long x4), .second, .val (.long x5), .second, .val (.long x6), .second, .val (.long x7), .second, .val (.long x8), .second, .val (.long x9), .second, .val (.long x10), .second, .val (.long x11), .second, .val (.double x12), .second] [(.ref a0)])) _
    refine XS.dload X45.here hx rfl (hb hby d2_69) rfl ?_
    show Steps p.tables e below (T45.setTop (mkF m 71 #[.val (.ref a0), .val (.long x1), .second, .val (.long x2), .second, .val (.long x3), .second, .val (.long x4), .second, .val (.long x5), .second, .val (.long x6), .second, .val (.long x7), .second, .val (.long x8), .second, .val (.long x9), .second, .val (.long x10), .second, .val (.long x11), .second, .val (.double x12), .second] [(.double x12), (.ref a0)])) _
    exact kt
  have f47 := (((((((((((F_loadStddev.other W5 (Or.inr (slot_ne (Or.inr (hw _ (List.mem_of_getElem? (i := 42) rfl))) (Or.inr (hw _ (List.mem_of_getElem? (i := 20) rfl))) (by decide) (t := .double) (t' := .long) (by decide) (by decide)))).other W9 (Or.inr (slot_ne (Or.inr (hw _ (List.mem_of_getElem? (i := 42) rfl))) (Or.inr (hw _ (List.mem_of_getElem? (i := 22) rfl))) (by decide) (t := .double) (t' := .long) (by decide) (by decide)))).other W13 (Or.inr (slot_ne (Or.inr (hw _ (List.mem_of_getElem? (i := 42) rfl))) (Or.inr (hw _ (List.mem_of_getElem? (i := 24) rfl))) (by decide) (t := .double) (t' := .long) (by decide) (by decide)))).other W17 (Or.inr (slot_ne (Or.inr (hw _ (List.mem_of_getElem? (i := 42) rfl))) (Or.inr (hw _ (List.mem_of_getElem? (i := 26) rfl))) (by decide) (t := .double) (t' := .long) (by decide) (by decide)))).other W21 (Or.inr (slot_ne (Or.inr (hw _ (List.mem_of_getElem? (i := 42) rfl))) (Or.inr (hw _ (List.mem_of_getElem? (i := 28) rfl))) (by decide) (t := .double) (t' := .long) (by decide) (by decide)))).other W25 (Or.inr (slot_ne (Or.inr (hw _ (List.mem_of_getElem? (i := 42) rfl))) (Or.inr (hw _ (List.mem_of_getElem? (i := 30) rfl))) (by decide) (t := .double) (t' := .long) (by decide) (by decide)))).other W29 (Or.inr (slot_ne (Or.inr (hw _ (List.mem_of_getElem? (i := 42) rfl))) (Or.inr (hw _ (List.mem_of_getElem? (i := 32) rfl))) (by decide) (t := .double) (t' := .long) (by decide) (by decide)))).other W33 (Or.inr (slot_ne (Or.inr (hw _ (List.mem_of_getElem? (i := 42) rfl))) (Or.inr (hw _ (List.mem_of_getElem? (i := 34) rfl))) (by decide) (t := .double) (t' := .long) (by decide) (by decide)))).other W37 (Or.inr (slot_ne (Or.inr (hw _ (List.mem_of_getElem? (i := 42) rfl))) (Or.inr (hw _ (List.mem_of_getElem? (i := 36) rfl))) (by decide) (t := .double) (t' := .long) (by decide) (by decide)))).other W41 (Or.inr (slot_ne (Or.inr (hw _ (List.mem_of_getElem? (i := 42) rfl))) (Or.inr (hw _ (List.mem_of_getElem? (i := 38) rfl))) (by decide) (t := .double) (t' := .long) (by decide) (by decide)))).other W45 (Or.inr (slot_ne (Or.inr (hw _ (List.mem_of_getElem? (i := 42) rfl))) (Or.inr (hw _ (List.mem_of_getElem? (i := 40) rfl))) (by decide) (t := .double) (t' := .long) (by decide) (by decide))))
  have f48 := (f44.wr W45)
  obtain ⟨T49, h49, X49, e49, W49, st49⟩ := putF X45 hx hZ hown (host := "") (Or.inl (hw _ (List.mem_of_getElem? (i := 41) rfl))) Via.refl e45 f47 f48 (Or.inr ⟨(hw _ (List.mem_of_getElem? (i := 42) rfl)), rfl, hnm⟩) (hw _ (List.mem_of_getElem? (i := 2) rfl)) (ty := .double) (by decide) rfl rfl (g := (mkF m 71 #[.val (.ref a0), .val (.long x1), .second, .val (.long x2), .second, .val (.long x3), .second, .val (.long x4), .second, .val (.long x5), .second, .val (.long x6), .second, .val (.long x7), .second, .val (.long x8), .second, .val (.long x9), .second, .val (.long x10), .second, .val (.long x11), .second, .val (.double x12), .second] [(.double x12), (.ref a0)])) rfl rfl (hb hby d2_71)
  have K49 : ∀ t, Steps p.tables e below (T49.setTop (mkF m 74 #[.val (.ref a0), .val (.long x1), .second, .val (.long x2), .second, .val (.long x3), .second, .val (.long x4), .second, .val (.long x5), .second, .val (.long x6), .second, .val (.long x7), .second, .val (.long x8), .second, .val (.long x9), .second, .val (.long x10), .second, .val (.long x11), .second, .val (.double x12), .second] [])) t → Steps p.tables e below G0 t := fun t kt => K46 t (st49 _ kt)
  have Fw49 := (f47).same W49
  have N49 := Fr.snoc X49 N45 gn
  have Z49 : n0 ≤ h49.size := Nat.le_trans Z45 (Keep.of_wr W49).1
  have KP49 := KP45.wr W49 (Or.inl (List.mem_of_getElem? (i := 0) rfl))
  have f50 := (f48.wr W49)
  have f51 := (((((((((((Fw5.other W9 (Or.inr (slot_ne (Or.inr (hw _ (List.mem_of_getElem? (i := 20) rfl))) (Or.inr (hw _ (List.mem_of_getElem? (i := 22) rfl))) (by decide) (t := .long) (t' := .long) (by decide) (by decide)))).other W13 (Or.inr (slot_ne (Or.inr (hw _ (List.mem_of_getElem? (i := 20) rfl))) (Or.inr (hw _ (List.mem_of_getElem? (i := 24) rfl))) (by decide) (t := .long) (t' := .long) (by decide) (by decide)))).other W17 (Or.inr (slot_ne (Or.inr (hw _ (List.mem_of_getElem? (i := 20) rfl))) (Or.inr (hw _ (List.mem_of_getElem? (i := 26) rfl))) (by decide) (t := .long) (t' := .long) (by decide) (by decide)))).other W21 (Or.inr (slot_ne (Or.inr (hw _ (List.mem_of_getElem? (i := 20) rfl))) (Or.inr (hw _ (List.mem_of_getElem? (i := 28) rfl))) (by decide) (t := .long) (t' := .long) (by decide) (by decide)))).other W25 (Or.inr (slot_ne (Or.inr (hw _ (List.mem_of_getElem? (i := 20) rfl))) (Or.inr (hw _ (List.mem_of_getElem? (i := 30) rfl))) (by decide) (t := .long) (t' := .long) (by decide) (by decide)))).other W29 (Or.inr (slot_ne (Or.inr (hw _ (List.mem_of_getElem? (i := 20) rfl))) (Or.inr (hw _ (List.mem_of_getElem? (i := 32) rfl))) (by decide) (t := .long) (t' := .long) (by decide) (by decide)))).other W33 (Or.inr (slot_ne (Or.inr (hw _ (List.mem_of_getElem? (i := 20) rfl))) (Or.inr (hw _ (List.mem_of_getElem? (i := 34) rfl))) (by decide) (t := .long) (t' := .long) (by decide) (by decide)))).other W37 (Or.inr (slot_ne (Or.inr (hw _ (List.mem_of_getElem? (i := 20) rfl))) (Or.inr (hw _ (List.mem_of_getElem? (i := 36) rfl))) (by decide) (t := .long) (t' := .long) (by decide) (by decide)))).other W41 (Or.inr (slot_ne (Or.inr (hw _ (List.mem_of_getElem? (i := 20) rfl))) (Or.inr (hw _ (List.mem_of_getElem? (i := 38) rfl))) (by decide) (t := .long) (t' := .long) (by decide) (by decide)))).other W45 (Or.inr (slot_ne (Or.inr (hw _ (List.mem_of_getElem? (i := 20) rfl))) (Or.inr (hw _ (List.mem_of_getElem? (i := 40) rfl))) (by decide) (t := .long) (t' := .long) (by decide) (by decide)))).other W49 (Or.inr (slot_ne (Or.inr (hw _ (List.mem_of_getElem? (i := 20) rfl))) (Or.inr (hw _ (List.mem_of_getElem? (i := 42) rfl))) (by decide) (t := .long) (t' := .double) (by decide) (by decide))))
  have f52 := ((((((((((Fw9.other W13 (Or.inr (slot_ne (Or.inr (hw _ (List.mem_of_getElem? (i := 22) rfl))) (Or.inr (hw _ (List.mem_of_getElem? (i := 24) rfl))) (by decide) (t := .long) (t' := .long) (by decide) (by decide)))).other W17 (Or.inr (slot_ne (Or.inr (hw _ (List.mem_of_getElem? (i := 22) rfl))) (Or.inr (hw _ (List.mem_of_getElem? (i := 26) rfl))) (by decide) (t := .long) (t' := .long) (by decide) (by decide)))).other W21 (Or.inr (slot_ne (Or.inr (hw _ (List.mem_of_getElem? (i := 22) rfl))) (Or.inr (hw _ (List.mem_of_getElem? (i := 28) rfl))) (by decide) (t := .long) (t' := .long) (by decide) (by decide)))).other W25 (Or.inr (slot_ne (Or.inr (hw _ (List.mem_of_getElem? (i := 22) rfl))) (Or.inr (hw _ (List.mem_of_getElem? (i := 30) rfl))) (by decide) (t := .long) (t' := .long) (by decide) (by decide)))).other W29 (Or.inr (slot_ne (Or.inr (hw _ (List.mem_of_getElem? (i := 22) rfl))) (Or.inr (hw _ (List.mem_of_getElem? (i := 32) rfl))) (by decide) (t := .long) (t' := .long) (by decide) (by decide)))).other W33 (Or.inr (slot_ne (Or.inr (hw _ (List.mem_of_getElem? (i := 22) rfl))) (Or.inr (hw _ (List.mem_of_getElem? (i := 34) rfl))) (by decide) (t := .long) (t' := .long) (by decide) (by decide)))).other W37 (Or.inr (slot_ne (Or.inr (hw _ (List.mem_of_getElem? (i := 22) rfl))) (Or.inr (hw _ (List.mem_of_getElem? (i := 36) rfl))) (by decide) (t := .long) (t' := .long) (by decide) (by decide)))).other W41 (Or.inr (slot_ne (Or.inr (hw _ (List.mem_of_getElem? (i := 22) rfl))) (Or.inr (hw _ (List.mem_of_getElem? (i := 38) rfl))) (by decide) (t := .long) (t' := .long) (by decide) (by decide)))).other W45 (Or.inr (slot_ne (Or.inr (hw _ (List.mem_of_getElem? (i := 22) rfl))) (Or.inr (hw _ (List.mem_of_getElem? (i := 40) rfl))) (by decide) (t := .long) (t' := .long) (by decide) (by decide)))).other W49 (Or.inr (slot_ne (Or.inr (hw _ (List.mem_of_getElem? (i := 22) rfl))) (Or.inr (hw _ (List.mem_of_getElem? (i := 42) rfl))) (by decide) (t := .long) (t' := .double) (by decide) (by decide))))
  have f53 := (((((((((Fw13.other W17 (Or.inr (slot_ne (Or.inr (hw _ (List.mem_of_getElem? (i := 24) rfl))) (Or.inr (hw _ (List.mem_of_getElem? (i := 26) rfl))) (by decide) (t := .long) (t' := .long) (by decide) (by decide)))).other W21 (Or.inr (slot_ne (Or.inr (hw _ (List.mem_of_getElem? (i := 24) rfl))) (Or.inr (hw _ (List.mem_of_getElem? (i := 28) rfl))) (by decide) (t := .long) (t' := .long) (by decide) (by decide)))).other W25 (Or.inr (slot_ne (Or.inr (hw _ (List.mem_of_getElem? (i := 24) rfl))) (Or.inr (hw _ (List.mem_of_getElem? (i := 30) rfl))) (by decide) (t := .long) (t' := .long) (by decide) (by decide)))).other W29 (Or.inr (slot_ne (Or.inr (hw _ (List.mem_of_getElem? (i := 24) rfl))) (Or.inr (hw _ (List.mem_of_getElem? (i := 32) rfl))) (by decide) (t := .long) (t' := .long) (by decide) (by decide)))).other W33 (Or.inr (slot_ne (Or.inr (hw _ (List.mem_of_getElem? (i := 24) rfl))) (Or.inr (hw _ (List.mem_of_getElem? (i := 34) rfl))) (by decide) (t := .long) (t' := .long) (by decide) (by decide)))).other W37 (Or.inr (slot_ne (Or.inr (hw _ (List.mem_of_getElem? (i := 24) rfl))) (Or.inr (hw _ (List.mem_of_getElem? (i := 36) rfl))) (by decide) (t := .long) (t' := .long) (by decide) (by decide)))).other W41 (Or.inr (slot_ne (Or.inr (hw _ (List.mem_of_getElem? (i := 24) rfl))) (Or.inr (hw _ (List.mem_of_getElem? (i := 38) rfl))) (by decide) (t := .long) (t' := .long) (by decide) (by decide)))).other W45 (Or.inr (slot_ne (Or.inr (hw _ (List.mem_of_getElem? (i := 24) rfl))) (Or.inr (hw _ (List.mem_of_getElem? (i := 40) rfl))) (by decide) (t := .long) (t' := .long) (by decide) (by decide)))).other W49 (Or.inr (slot_ne (Or.inr (hw _ (List.mem_of_getElem? (i := 24) rfl))) (Or.inr (hw _ (List.mem_of_getElem? (i := 42) rfl))) (by decide) (t := .long) (t' := .double) (by decide) (by decide))))
  have f54 := ((((((((Fw17.other W21 (Or.inr (slot_ne (Or.inr (hw _ (List.mem_of_getElem? (i := 26) rfl))) (Or.inr (hw _ (List.mem_of_getElem? (i := 28) rfl))) (by decide) (t := .long) (t' := .long) (by decide) (by decide)))).other W25 (Or.inr (slot_ne (Or.inr (hw _ (List.mem_of_getElem? (i := 26) rfl))) (Or.inr (hw _ (List.mem_of_getElem? (i := 30) rfl))) (by decide) (t := .long) (t' := .long) (by decide) (by decide)))).other W29 (Or.inr (slot_ne (Or.inr (hw _ (List.mem_of_getElem? (i := 26) rfl))) (Or.inr (hw _ (List.mem_of_getElem? (i := 32) rfl))) (by decide) (t := .long) (t' := .long) (by decide) (by decide)))).other W33 (Or.inr (slot_ne (Or.inr (hw _ (List.mem_of_getElem? (i := 26) rfl))) (Or.inr (hw _ (List.mem_of_getElem? (i := 34) rfl))) (by decide) (t := .long) (t' := .long) (by decide) (by decide)))).other W37 (Or.inr (slot_ne (Or.inr (hw _ (List.mem_of_getElem? (i := 26) rfl))) (Or.inr (hw _ (List.mem_of_getElem? (i := 36) rfl))) (by decide) (t := .long) (t' := .long) (by decide) (by decide)))).other W41 (Or.inr (slot_ne (Or.inr (hw _ (List.mem_of_getElem? (i := 26) rfl))) (Or.inr (hw _ (List.mem_of_getElem? (i := 38) rfl))) (by decide) (t := .long) (t' := .long) (by decide) (by decide)))).other W45 (Or.inr (slot_ne (Or.inr (hw _ (List.mem_of_getElem? (i := 26) rfl))) (Or.inr (hw _ (List.mem_of_getElem? (i := 40) rfl))) (by decide) (t := .long) (t' := .long) (by decide) (by decide)))).other W49 (Or.inr (slot_ne (Or.inr (hw _ (List.mem_of_getElem? (i := 26) rfl))) (Or.inr (hw _ (List.mem_of_getElem? (i := 42) rfl))) (by decide) (t := .long) (t' := .double) (by decide) (by decide))))
  have f55 := (((((((Fw21.other W25 (Or.inr (slot_ne (Or.inr (hw _ (List.mem_of_getElem? (i := 28) rfl))) (Or.inr (hw _ (List.mem_of_getElem? (i := 30) rfl))) (by decide) (t := .long) (t' := .long) (by decide) (by decide)))).other W29 (Or.inr (slot_ne (Or.inr (hw _ (List.mem_of_getElem? (i := 28) rfl))) (Or.inr (hw _ (List.mem_of_getElem? (i := 32) rfl))) (by decide) (t := .long) (t' := .long) (by decide) (by decide)))).other W33 (Or.inr (slot_ne (Or.inr (hw _ (List.mem_of_getElem? (i := 28) rfl))) (Or.inr (hw _ (List.mem_of_getElem? (i := 34) rfl))) (by decide) (t := .long) (t' := .long) (by decide) (by decide)))).other W37 (Or.inr (slot_ne (Or.inr (hw _ (List.mem_of_getElem? (i := 28) rfl))) (Or.inr (hw _ (List.mem_of_getElem? (i := 36) rfl))) (by decide) (t := .long) (t' := .long) (by decide) (by decide)))).other W41 (Or.inr (slot_ne (Or.inr (hw _ (List.mem_of_getElem? (i := 28) rfl))) (Or.inr (hw _ (List.mem_of_getElem? (i := 38) rfl))) (by decide) (t := .long) (t' := .long) (by decide) (by decide)))).other W45 (Or.inr (slot_ne (Or.inr (hw _ (List.mem_of_getElem? (i := 28) rfl))) (Or.inr (hw _ (List.mem_of_getElem? (i := 40) rfl))) (by decide) (t := .long) (t' := .long) (by decide) (by decide)))).other W49 (Or.inr (slot_ne (Or.inr (hw _ (List.mem_of_getElem? (i := 28) rfl))) (Or.inr (hw _ (List.mem_of_getElem? (i := 42) rfl))) (by decide) (t := .long) (t' := .double) (by decide) (by decide))))
  have f56 := ((((((Fw25.other W29 (Or.inr (slot_ne (Or.inr (hw _ (List.mem_of_getElem? (i := 30) rfl))) (Or.inr (hw _ (List.mem_of_getElem? (i := 32) rfl))) (by decide) (t := .long) (t' := .long) (by decide) (by decide)))).other W33 (Or.inr (slot_ne (Or.inr (hw _ (List.mem_of_getElem? (i := 30) rfl))) (Or.inr (hw _ (List.mem_of_getElem? (i := 34) rfl))) (by decide) (t := .long) (t' := .long) (by decide) (by decide)))).other W37 (Or.inr (slot_ne (Or.inr (hw _ (List.mem_of_getElem? (i := 30) rfl))) (Or.inr (hw _ (List.mem_of_getElem? (i := 36) rfl))) (by decide) (t := .long) (t' := .long) (by decide) (by decide)))).other W41 (Or.inr (slot_ne (Or.inr (hw _ (List.mem_of_getElem? (i := 30) rfl))) (Or.inr (hw _ (List.mem_of_getElem? (i := 38) rfl))) (by decide) (t := .long) (t' := .long) (by decide) (by decide)))).other W45 (Or.inr (slot_ne (Or.inr (hw _ (List.mem_of_getElem? (i := 30) rfl))) (Or.inr (hw _ (List.mem_of_getElem? (i := 40) rfl))) (by decide) (t := .long) (t' := .long) (by decide) (by decide)))).other W49 (Or.inr (slot_ne (Or.inr (hw _ (List.mem_of_getElem? (i := 30) rfl))) (Or.inr (hw _ (List.mem_of_getElem? (i := 42) rfl))) (by decide) (t := .long) (t' := .double) (by decide) (by decide))))
  have f57 := (((((Fw29.other W33 (Or.inr (slot_ne (Or.inr (hw _ (List.mem_of_getElem? (i := 32) rfl))) (Or.inr (hw _ (List.mem_of_getElem? (i := 34) rfl))) (by decide) (t := .long) (t' := .long) (by decide) (by decide)))).other W37 (Or.inr (slot_ne (Or.inr (hw _ (List.mem_of_getElem? (i := 32) rfl))) (Or.inr (hw _ (List.mem_of_getElem? (i := 36) rfl))) (by decide) (t := .long) (t' := .long) (by decide) (by decide)))).other W41 (Or.inr (slot_ne (Or.inr (hw _ (List.mem_of_getElem? (i := 32) rfl))) (Or.inr (hw _ (List.mem_of_getElem? (i := 38) rfl))) (by decide) (t := .long) (t' := .long) (by decide) (by decide)))).other W45 (Or.inr (slot_ne (Or.inr (hw _ (List.mem_of_getElem? (i := 32) rfl))) (Or.inr (hw _ (List.mem_of_getElem? (i := 40) rfl))) (by decide) (t := .long) (t' := .long) (by decide) (by decide)))).other W49 (Or.inr (slot_ne (Or.inr (hw _ (List.mem_of_getElem? (i := 32) rfl))) (Or.inr (hw _ (List.mem_of_getElem? (i := 42) rfl))) (by decide) (t := .long) (t' := .double) (by decide) (by decide))))
  have f58 := ((((Fw33.other W37 (Or.inr (slot_ne (Or.inr (hw _ (List.mem_of_getElem? (i := 34) rfl))) (Or.inr (hw _ (List.mem_of_getElem? (i := 36) rfl))) (by decide) (t := .long) (t' := .long) (by decide) (by decide)))).other W41 (Or.inr (slot_ne (Or.inr (hw _ (List.mem_of_getElem? (i := 34) rfl))) (Or.inr (hw _ (List.mem_of_getElem? (i := 38) rfl))) (by decide) (t := .long) (t' := .long) (by decide) (by decide)))).other W45 (Or.inr (slot_ne (Or.inr (hw _ (List.mem_of_getElem? (i := 34) rfl))) (Or.inr (hw _ (List.mem_of_getElem? (i := 40) rfl))) (by decide) (t := .long) (t' := .long) (by decide) (by decide)))).other W49 (Or.inr (slot_ne (Or.inr (hw _ (List.mem_of_getElem? (i := 34) rfl))) (Or.inr (hw _ (List.mem_of_getElem? (i := 42) rfl))) (by decide) (t := .long) (t' := .double) (by decide) (by decide))))
  have f59 := (((Fw37.other W41 (Or.inr (slot_ne (Or.inr (hw _ (List.mem_of_getElem? (i := 36) rfl))) (Or.inr (hw _ (List.mem_of_getElem? (i := 38) rfl))) (by decide) (t := .long) (t' := .long) (by decide) (by decide)))).other W45 (Or.inr (slot_ne (Or.inr (hw _ (List.mem_of_getElem? (i := 36) rfl))) (Or.inr (hw _ (List.mem_of_getElem? (i := 40) rfl))) (by decide) (t := .long) (t' := .long) (by decide) (by decide)))).other W49 (Or.inr (slot_ne (Or.inr (hw _ (List.mem_of_getElem? (i := 36) rfl))) (Or.inr (hw _ (List.mem_of_getElem? (i := 42) rfl))) (by decide) (t := .long) (t' := .double) (by decide) (by decide))))
  have f60 := ((Fw41.other W45 (Or.inr (slot_ne (Or.inr (hw _ (List.mem_of_getElem? (i := 38) rfl))) (Or.inr (hw _ (List.mem_of_getElem? (i := 40) rfl))) (by decide) (t := .long) (t' := .long) (by decide) (by decide)))).other W49 (Or.inr (slot_ne (Or.inr (hw _ (List.mem_of_getElem? (i := 38) rfl))) (Or.inr (hw _ (List.mem_of_getElem? (i := 42) rfl))) (by decide) (t := .long) (t' := .double) (by decide) (by decide))))
  have f61 := (Fw45.other W49 (Or.inr (slot_ne (Or.inr (hw _ (List.mem_of_getElem? (i := 40) rfl))) (Or.inr (hw _ (List.mem_of_getElem? (i := 42) rfl))) (by decide) (t := .long) (t' := .double) (by decide) (by decide))))
  obtain ⟨fs, hr, hrun, hended, hW, hsame⟩ := X49.leave (v := none) (fun _ => rfl)
  refine ⟨_, _, ?_, hrun, hended, _, _, rfl, ?_, ⟨_, rfl⟩, hW, hsame.mono (by decide) (by decide)⟩
  · rw [← hG0]
    refine K49 _ ?_
    exact X49.returnOut hx Bd.returns (hb hby d2_74) hr
  · show Q2 Z a0 x1 x2 x3 x4 x5 x6 x7 x8 x9 x10 x11 x12 u_lessons u_roomClashes u_teacherClashes u_curriculumClashes u_unavailable u_unqualified u_splitTeacher u_wrongRoom u_wrongShift u_placed u_preferred u_loadStddev h0 n0 _ T49.heap _
    rw [e49]
    exact ⟨rfl, N49, KP49, f50, f51, f52, f53, f54, f55, f56, f57, f58, f59, f60, f61, Fw49⟩
theorem d5_0 : decode prog_45_method_2_code 0 = .ok (.aload_n 0, 1) := by decide +kernel
theorem d5_1 : decode prog_45_method_2_code 1 = .ok (.getfield 7, 3) := by decide +kernel
theorem d5_4 : decode prog_45_method_2_code 4 = .ok (.aload_n 0, 1) := by decide +kernel
theorem d5_5 : decode prog_45_method_2_code 5 = .ok (.getfield 13, 3) := by decide +kernel
theorem d5_8 : decode prog_45_method_2_code 8 = .ok (.ladd, 1) := by decide +kernel
theorem d5_9 : decode prog_45_method_2_code 9 = .ok (.aload_n 0, 1) := by decide +kernel
theorem d5_10 : decode prog_45_method_2_code 10 = .ok (.getfield 16, 3) := by decide +kernel
theorem d5_13 : decode prog_45_method_2_code 13 = .ok (.ladd, 1) := by decide +kernel
theorem d5_14 : decode prog_45_method_2_code 14 = .ok (.aload_n 0, 1) := by decide +kernel
theorem d5_15 : decode prog_45_method_2_code 15 = .ok (.getfield 19, 3) := by decide +kernel
theorem d5_18 : decode prog_45_method_2_code 18 = .ok (.ladd, 1) := by decide +kernel
theorem d5_19 : decode prog_45_method_2_code 19 = .ok (.aload_n 0, 1) := by decide +kernel
theorem d5_20 : decode prog_45_method_2_code 20 = .ok (.getfield 22, 3) := by decide +kernel
theorem d5_23 : decode prog_45_method_2_code 23 = .ok (.ladd, 1) := by decide +kernel
theorem d5_24 : decode prog_45_method_2_code 24 = .ok (.aload_n 0, 1) := by decide +kernel
theorem d5_25 : decode prog_45_method_2_code 25 = .ok (.getfield 25, 3) := by decide +kernel
theorem d5_28 : decode prog_45_method_2_code 28 = .ok (.ladd, 1) := by decide +kernel
theorem d5_29 : decode prog_45_method_2_code 29 = .ok (.aload_n 0, 1) := by decide +kernel
theorem d5_30 : decode prog_45_method_2_code 30 = .ok (.getfield 28, 3) := by decide +kernel
theorem d5_33 : decode prog_45_method_2_code 33 = .ok (.ladd, 1) := by decide +kernel
theorem d5_34 : decode prog_45_method_2_code 34 = .ok (.aload_n 0, 1) := by decide +kernel
theorem d5_35 : decode prog_45_method_2_code 35 = .ok (.getfield 31, 3) := by decide +kernel
theorem d5_38 : decode prog_45_method_2_code 38 = .ok (.ladd, 1) := by decide +kernel
theorem d5_39 : decode prog_45_method_2_code 39 = .ok (.aload_n 0, 1) := by decide +kernel
theorem d5_40 : decode prog_45_method_2_code 40 = .ok (.getfield 34, 3) := by decide +kernel
theorem d5_43 : decode prog_45_method_2_code 43 = .ok (.ladd, 1) := by decide +kernel
theorem d5_44 : decode prog_45_method_2_code 44 = .ok (.lreturn, 1) := by decide +kernel
theorem ef_rm5 (m : MethodId) (a0 : Addr) : entryFrame m #[(.ref a0)] 1 = (mkF m 0 #[.val (.ref a0)] []) := by first | (simp [entryFrame, mkF, argsToLocals, Value.category]; done) | rfl
def Q5 (Z : State) (a0 : Addr) (w0 : Int64) (w1 : Int64) (w2 : Int64) (w3 : Int64) (w4 : Int64) (w5 : Int64) (w6 : Int64) (w7 : Int64) (w8 : Int64) (h0 : Heap) (n0 : Nat) (v : Option Value) (h : Heap) (L : List Loc) : Prop := v = some (.long (w0 + w1 + w2 + w3 + w4 + w5 + w6 + w7 + w8)) ∧ Fr n0 L ∧ h = h0
set_option maxRecDepth 65536 in
set_option maxHeartbeats 40000000 in
theorem rm5 (l : Launch) (Z : State) (aa : Array Value) (hw : ∀ d ∈ tables_1, d.before aa Z = true) (ws : List Jvm.Cond) (a0 : Addr) (w0 : Int64) (w1 : Int64) (w2 : Int64) (w3 : Int64) (w4 : Int64) (w5 : Int64) (w6 : Int64) (w7 : Int64) (w8 : Int64) (h0 : Heap) (n0 : Nat) (Z0 : n0 ≤ h0.size) (F0 : Fld Z h0 a0 "com/example/horarium/horarium/engine/CampusScore" "lessons" "J" (.long w0)) (F1 : Fld Z h0 a0 "com/example/horarium/horarium/engine/CampusScore" "roomClashes" "J" (.long w1)) (F2 : Fld Z h0 a0 "com/example/horarium/horarium/engine/CampusScore" "teacherClashes" "J" (.long w2)) (F3 : Fld Z h0 a0 "com/example/horarium/horarium/engine/CampusScore" "curriculumClashes" "J" (.long w3)) (F4 : Fld Z h0 a0 "com/example/horarium/horarium/engine/CampusScore" "unavailable" "J" (.long w4)) (F5 : Fld Z h0 a0 "com/example/horarium/horarium/engine/CampusScore" "unqualified" "J" (.long w5)) (F6 : Fld Z h0 a0 "com/example/horarium/horarium/engine/CampusScore" "splitTeacher" "J" (.long w6)) (F7 : Fld Z h0 a0 "com/example/horarium/horarium/engine/CampusScore" "wrongRoom" "J" (.long w7)) (F8 : Fld Z h0 a0 "com/example/horarium/horarium/engine/CampusScore" "wrongShift" "J" (.long w8)) :
    MetFree l (⟨"com/example/horarium/horarium/engine/CampusScore", "hard", "()J"⟩ : MethodName) (head1 (Jvm.Cond.code (⟨"com/example/horarium/horarium/engine/CampusScore", "hard", "()J"⟩ : MethodName) prog_45_method_2_code 1 (some .long) :: ws) ({ frames := 0, cells := 0, slots := 0, locals := 0 } : Room)) (fun a U => a = #[(.ref a0)] ∧ Z.Warmed39 U.vm ∧ U.heap = h0) (fun _ _ _ _ _ => True) (fun _ U o U' => ∃ v L, o = .returned v ∧ Q5 Z a0 w0 w1 w2 w3 w4 w5 w6 w7 w8 h0 n0 v U'.heap L ∧ FrameEnd U o U' L ({ frames := 0, cells := 0, slots := 0, locals := 0 } : Room).cells ({ frames := 0, cells := 0, slots := 0, locals := 0 } : Room).slots) := by
  refine MetFree.of_bodySF (plainFor_of_name pn_com_example_horarium_horarium_engine_CampusScore) hisR ?_
  intro p e s m args below meth c s₁ Bd hml0 hP hK
  obtain ⟨rfl, hZ, hh⟩ := hP
  have hx := Bd.exec
  have hby := Bd.bytes
  have hml : c.maxLocals = 1 := hml0
  have hown : s.vm.findClass "com/example/horarium/horarium/engine/CampusScore" = some m.cls := findClass_of_methodNamed Bd.named
  have hnm := (name_of_methodNamed Bd.named Bd.method).1
  have X0 : Stand p l e ({ frames := 0, cells := 0, slots := 0, locals := 0 } : Room) s m #[(.ref a0)] below meth c s₁ [] 0 0 := Stand.of_body Bd
  have e0 : s₁.heap = h0 := by rw [← hh, Bd.state]; rfl
  have N0 := Fr.nil n0
  obtain ⟨G0, hG0⟩ : ∃ G, G = s₁.setTop (entryFrame m #[(.ref a0)] 1) := ⟨_, rfl⟩
  have K0 : ∀ t, Steps p.tables e below (s₁.setTop (mkF m 0 #[.val (.ref a0)] [])) t → Steps p.tables e below G0 t := fun t k => by rw [hG0]; exact castTop (ef_rm5 m a0) k
  have K1 : ∀ t, Steps p.tables e below (s₁.setTop (mkF m 1 #[.val (.ref a0)] [(.ref a0)])) t → Steps p.tables e below G0 t := by
    intro t kt
    refine K0 t ?_
    refine XS.aloadN X0.here hx rfl (hb hby d5_0) rfl rfl ?_
    show Steps p.tables e below (s₁.setTop (mkF m 1 #[.val (.ref a0)] [(.ref a0)])) _
    exact kt
  obtain ⟨T2, X2, e2, st2⟩ := getF X0 hx hZ hown (host := "") (Or.inl (hw _ (List.mem_of_getElem? (i := 19) rfl))) Via.refl e0 F0 (g := (mkF m 1 #[.val (.ref a0)] [(.ref a0)])) rfl rfl (hb hby d5_1)
  have K2 : ∀ t, Steps p.tables e below (T2.setTop (mkF m 4 #[.val (.ref a0)] [(.long w0)])) t → Steps p.tables e below G0 t := fun t kt => K1 t (st2 _ kt)
  have K3 : ∀ t, Steps p.tables e below (T2.setTop (mkF m 5 #[.val (.ref a0)] [(.ref a0), (.long w0)])) t → Steps p.tables e below G0 t := by
    intro t kt
    refine K2 t ?_
    refine XS.aloadN X2.here hx rfl (hb hby d5_4) rfl rfl ?_
    show Steps p.tables e below (T2.setTop (mkF m 5 #[.val (.ref a0)] [(.ref a0), (.long w0)])) _
    exact kt
  obtain ⟨T4, X4, e4, st4⟩ := getF X2 hx hZ hown (host := "") (Or.inl (hw _ (List.mem_of_getElem? (i := 21) rfl))) Via.refl e2 F1 (g := (mkF m 5 #[.val (.ref a0)] [(.ref a0), (.long w0)])) rfl rfl (hb hby d5_5)
  have K4 : ∀ t, Steps p.tables e below (T4.setTop (mkF m 8 #[.val (.ref a0)] [(.long w1), (.long w0)])) t → Steps p.tables e below G0 t := fun t kt => K3 t (st4 _ kt)
  have K5 : ∀ t, Steps p.tables e below (T4.setTop (mkF m 10 #[.val (.ref a0)] [(.ref a0), (.long (w0 + w1))])) t → Steps p.tables e below G0 t := by
    intro t kt
    refine K4 t ?_
    refine XS.ladd X4.here hx rfl (hb hby d5_8) rfl ?_
    show Steps p.tables e below (T4.setTop (mkF m 9 #[.val (.ref a0)] [(.long (w0 + w1))])) _
    refine XS.aloadN X4.here hx rfl (hb hby d5_9) rfl rfl ?_
    show Steps p.tables e below (T4.setTop (mkF m 10 #[.val (.ref a0)] [(.ref a0), (.long (w0 + w1))])) _
    exact kt
  obtain ⟨T6, X6, e6, st6⟩ := getF X4 hx hZ hown (host := "") (Or.inl (hw _ (List.mem_of_getElem? (i := 23) rfl))) Via.refl e4 F2 (g := (mkF m 10 #[.val (.ref a0)] [(.ref a0), (.long (w0 + w1))])) rfl rfl (hb hby d5_10)
  have K6 : ∀ t, Steps p.tables e below (T6.setTop (mkF m 13 #[.val (.ref a0)] [(.long w2), (.long (w0 + w1))])) t → Steps p.tables e below G0 t := fun t kt => K5 t (st6 _ kt)
  have K7 : ∀ t, Steps p.tables e below (T6.setTop (mkF m 15 #[.val (.ref a0)] [(.ref a0), (.long ((w0 + w1) + w2))])) t → Steps p.tables e below G0 t := by
    intro t kt
    refine K6 t ?_
    refine XS.ladd X6.here hx rfl (hb hby d5_13) rfl ?_
    show Steps p.tables e below (T6.setTop (mkF m 14 #[.val (.ref a0)] [(.long ((w0 + w1) + w2))])) _
    refine XS.aloadN X6.here hx rfl (hb hby d5_14) rfl rfl ?_
    show Steps p.tables e below (T6.setTop (mkF m 15 #[.val (.ref a0)] [(.ref a0), (.long ((w0 + w1) + w2))])) _
    exact kt
  obtain ⟨T8, X8, e8, st8⟩ := getF X6 hx hZ hown (host := "") (Or.inl (hw _ (List.mem_of_getElem? (i := 25) rfl))) Via.refl e6 F3 (g := (mkF m 15 #[.val (.ref a0)] [(.ref a0), (.long ((w0 + w1) + w2))])) rfl rfl (hb hby d5_15)
  have K8 : ∀ t, Steps p.tables e below (T8.setTop (mkF m 18 #[.val (.ref a0)] [(.long w3), (.long ((w0 + w1) + w2))])) t → Steps p.tables e below G0 t := fun t kt => K7 t (st8 _ kt)
  have K9 : ∀ t, Steps p.tables e below (T8.setTop (mkF m 20 #[.val (.ref a0)] [(.ref a0), (.long (((w0 + w1) + w2) + w3))])) t → Steps p.tables e below G0 t := by
    intro t kt
    refine K8 t ?_
    refine XS.ladd X8.here hx rfl (hb hby d5_18) rfl ?_
    show Steps p.tables e below (T8.setTop (mkF m 19 #[.val (.ref a0)] [(.long (((w0 + w1) + w2) + w3))])) _
    refine XS.aloadN X8.here hx rfl (hb hby d5_19) rfl rfl ?_
    show Steps p.tables e below (T8.setTop (mkF m 20 #[.val (.ref a0)] [(.ref a0), (.long (((w0 + w1) + w2) + w3))])) _
    exact kt
  obtain ⟨T10, X10, e10, st10⟩ := getF X8 hx hZ hown (host := "") (Or.inl (hw _ (List.mem_of_getElem? (i := 27) rfl))) Via.refl e8 F4 (g := (mkF m 20 #[.val (.ref a0)] [(.ref a0), (.long (((w0 + w1) + w2) + w3))])) rfl rfl (hb hby d5_20)
  have K10 : ∀ t, Steps p.tables e below (T10.setTop (mkF m 23 #[.val (.ref a0)] [(.long w4), (.long (((w0 + w1) + w2) + w3))])) t → Steps p.tables e below G0 t := fun t kt => K9 t (st10 _ kt)
  have K11 : ∀ t, Steps p.tables e below (T10.setTop (mkF m 25 #[.val (.ref a0)] [(.ref a0), (.long ((((w0 + w1) + w2) + w3) + w4))])) t → Steps p.tables e below G0 t := by
    intro t kt
    refine K10 t ?_
    refine XS.ladd X10.here hx rfl (hb hby d5_23) rfl ?_
    show Steps p.tables e below (T10.setTop (mkF m 24 #[.val (.ref a0)] [(.long ((((w0 + w1) + w2) + w3) + w4))])) _
    refine XS.aloadN X10.here hx rfl (hb hby d5_24) rfl rfl ?_
    show Steps p.tables e below (T10.setTop (mkF m 25 #[.val (.ref a0)] [(.ref a0), (.long ((((w0 + w1) + w2) + w3) + w4))])) _
    exact kt
  obtain ⟨T12, X12, e12, st12⟩ := getF X10 hx hZ hown (host := "") (Or.inl (hw _ (List.mem_of_getElem? (i := 29) rfl))) Via.refl e10 F5 (g := (mkF m 25 #[.val (.ref a0)] [(.ref a0), (.long ((((w0 + w1) + w2) + w3) + w4))])) rfl rfl (hb hby d5_25)
  have K12 : ∀ t, Steps p.tables e below (T12.setTop (mkF m 28 #[.val (.ref a0)] [(.long w5), (.long ((((w0 + w1) + w2) + w3) + w4))])) t → Steps p.tables e below G0 t := fun t kt => K11 t (st12 _ kt)
  have K13 : ∀ t, Steps p.tables e below (T12.setTop (mkF m 30 #[.val (.ref a0)] [(.ref a0), (.long (((((w0 + w1) + w2) + w3) + w4) + w5))])) t → Steps p.tables e below G0 t := by
    intro t kt
    refine K12 t ?_
    refine XS.ladd X12.here hx rfl (hb hby d5_28) rfl ?_
    show Steps p.tables e below (T12.setTop (mkF m 29 #[.val (.ref a0)] [(.long (((((w0 + w1) + w2) + w3) + w4) + w5))])) _
    refine XS.aloadN X12.here hx rfl (hb hby d5_29) rfl rfl ?_
    show Steps p.tables e below (T12.setTop (mkF m 30 #[.val (.ref a0)] [(.ref a0), (.long (((((w0 + w1) + w2) + w3) + w4) + w5))])) _
    exact kt
  obtain ⟨T14, X14, e14, st14⟩ := getF X12 hx hZ hown (host := "") (Or.inl (hw _ (List.mem_of_getElem? (i := 31) rfl))) Via.refl e12 F6 (g := (mkF m 30 #[.val (.ref a0)] [(.ref a0), (.long (((((w0 + w1) + w2) + w3) + w4) + w5))])) rfl rfl (hb hby d5_30)
  have K14 : ∀ t, Steps p.tables e below (T14.setTop (mkF m 33 #[.val (.ref a0)] [(.long w6), (.long (((((w0 + w1) + w2) + w3) + w4) + w5))])) t → Steps p.tables e below G0 t := fun t kt => K13 t (st14 _ kt)
  have K15 : ∀ t, Steps p.tables e below (T14.setTop (mkF m 35 #[.val (.ref a0)] [(.ref a0), (.long ((((((w0 + w1) + w2) + w3) + w4) + w5) + w6))])) t → Steps p.tables e below G0 t := by
    intro t kt
    refine K14 t ?_
    refine XS.ladd X14.here hx rfl (hb hby d5_33) rfl ?_
    show Steps p.tables e below (T14.setTop (mkF m 34 #[.val (.ref a0)] [(.long ((((((w0 + w1) + w2) + w3) + w4) + w5) + w6))])) _
    refine XS.aloadN X14.here hx rfl (hb hby d5_34) rfl rfl ?_
    show Steps p.tables e below (T14.setTop (mkF m 35 #[.val (.ref a0)] [(.ref a0), (.long ((((((w0 + w1) + w2) + w3) + w4) + w5) + w6))])) _
    exact kt
  obtain ⟨T16, X16, e16, st16⟩ := getF X14 hx hZ hown (host := "") (Or.inl (hw _ (List.mem_of_getElem? (i := 33) rfl))) Via.refl e14 F7 (g := (mkF m 35 #[.val (.ref a0)] [(.ref a0), (.long ((((((w0 + w1) + w2) + w3) + w4) + w5) + w6))])) rfl rfl (hb hby d5_35)
  have K16 : ∀ t, Steps p.tables e below (T16.setTop (mkF m 38 #[.val (.ref a0)] [(.long w7), (.long ((((((w0 + w1) + w2) + w3) + w4) + w5) + w6))])) t → Steps p.tables e below G0 t := fun t kt => K15 t (st16 _ kt)
  have K17 : ∀ t, Steps p.tables e below (T16.setTop (mkF m 40 #[.val (.ref a0)] [(.ref a0), (.long (((((((w0 + w1) + w2) + w3) + w4) + w5) + w6) + w7))])) t → Steps p.tables e below G0 t := by
    intro t kt
    refine K16 t ?_
    refine XS.ladd X16.here hx rfl (hb hby d5_38) rfl ?_
    show Steps p.tables e below (T16.setTop (mkF m 39 #[.val (.ref a0)] [(.long (((((((w0 + w1) + w2) + w3) + w4) + w5) + w6) + w7))])) _
    refine XS.aloadN X16.here hx rfl (hb hby d5_39) rfl rfl ?_
    show Steps p.tables e below (T16.setTop (mkF m 40 #[.val (.ref a0)] [(.ref a0), (.long (((((((w0 + w1) + w2) + w3) + w4) + w5) + w6) + w7))])) _
    exact kt
  obtain ⟨T18, X18, e18, st18⟩ := getF X16 hx hZ hown (host := "") (Or.inl (hw _ (List.mem_of_getElem? (i := 35) rfl))) Via.refl e16 F8 (g := (mkF m 40 #[.val (.ref a0)] [(.ref a0), (.long (((((((w0 + w1) + w2) + w3) + w4) + w5) + w6) + w7))])) rfl rfl (hb hby d5_40)
  have K18 : ∀ t, Steps p.tables e below (T18.setTop (mkF m 43 #[.val (.ref a0)] [(.long w8), (.long (((((((w0 + w1) + w2) + w3) + w4) + w5) + w6) + w7))])) t → Steps p.tables e below G0 t := fun t kt => K17 t (st18 _ kt)
  have K19 : ∀ t, Steps p.tables e below (T18.setTop (mkF m 44 #[.val (.ref a0)] [(.long ((((((((w0 + w1) + w2) + w3) + w4) + w5) + w6) + w7) + w8))])) t → Steps p.tables e below G0 t := by
    intro t kt
    refine K18 t ?_
    refine XS.ladd X18.here hx rfl (hb hby d5_43) rfl ?_
    show Steps p.tables e below (T18.setTop (mkF m 44 #[.val (.ref a0)] [(.long ((((((((w0 + w1) + w2) + w3) + w4) + w5) + w6) + w7) + w8))])) _
    exact kt
  obtain ⟨fs, hr, hrun, hended, hW, hsame⟩ := X18.leave (v := some (.long ((((((((w0 + w1) + w2) + w3) + w4) + w5) + w6) + w7) + w8))) (fun h => by rw [Bd.returns] at h; cases h)
  refine ⟨_, _, ?_, hrun, hended, _, _, rfl, ?_, ⟨_, rfl⟩, hW, hsame.mono (by decide) (by decide)⟩
  · rw [← hG0]
    refine K19 _ ?_
    exact retOut X18 hx (t := .long) Bd.returns rfl (Or.inr (Or.inl ⟨rfl, rfl, _, rfl⟩)) (hb hby d5_44) hr
  · show Q5 Z a0 w0 w1 w2 w3 w4 w5 w6 w7 w8 h0 n0 _ T18.heap _
    rw [e18]
    exact ⟨rfl, N0, rfl⟩
theorem pd_PIIIJJJQJ : parseMethodDescriptor "(IIIJJJ)J" = some ⟨[.int, .int, .int, .long, .long, .long], some .long⟩ := by decide +kernel
theorem pd_PJJJJJJJJJJJDQV : parseMethodDescriptor "(JJJJJJJJJJJD)V" = some ⟨[.long, .long, .long, .long, .long, .long, .long, .long, .long, .long, .long, .double], none⟩ := by decide +kernel
theorem pd_PQJ : parseMethodDescriptor "()J" = some ⟨[], some .long⟩ := by decide +kernel
theorem ef_rm0 (m : MethodId) (qb : Int64) (qx : Int64) (qy : Int64) (sel : Int32) (qp : Int64) (qq : Int32) : entryFrame m #[(.long qb), (.long qx), (.long qy), (.int sel), (.long qp), (.int qq)] maxLocals = (mkF m 0 #[.val (.long qb), .second, .val (.long qx), .second, .val (.long qy), .second, .val (.int sel), .val (.long qp), .second, .val (.int qq), .unset, .unset, .unset, .unset, .unset] []) := by first | (simp [entryFrame, mkF, argsToLocals, Value.category, maxLocals]; done) | rfl
def Q0 (Z : State) (qb : Int64) (qx : Int64) (qy : Int64) (sel : Int32) (qp : Int64) (qq : Int32) (h0 : Heap) (n0 : Nat) (v : Option Value) (h : Heap) (L : List Loc) : Prop := v = some (.int 1) ∧ Fr n0 L
set_option maxRecDepth 65536 in
set_option maxHeartbeats 40000000 in
theorem rm0 (l : Launch) (Z : State) (aa : Array Value) (hw : ∀ d ∈ tables_1, d.before aa Z = true) (ws : List Jvm.Cond) (qb : Int64) (qx : Int64) (qy : Int64) (sel : Int32) (qp : Int64) (qq : Int32) (h0 : Heap) (n0 : Nat) (Z0 : n0 ≤ h0.size) :
    MetFree l x (head1 (Jvm.Cond.code x code maxLocals ret :: ws) room_1) (fun a U => a = #[(.long qb), (.long qx), (.long qy), (.int sel), (.long qp), (.int qq)] ∧ Z.Warmed39 U.vm ∧ U.heap = h0) (fun _ _ _ _ _ => True) (fun _ U o U' => ∃ v L, o = .returned v ∧ Q0 Z qb qx qy sel qp qq h0 n0 v U'.heap L ∧ FrameEnd U o U' L room_1.cells room_1.slots) := by
  refine MetFree.of_bodySF (plainFor_of_name pn_com_example_horarium_horarium_engine_CampusScoreHardPinLaw) hisR ?_
  intro p e s m args below meth c s₁ Bd hml0 hP hK
  obtain ⟨rfl, hZ, hh⟩ := hP
  have hx := Bd.exec
  have hby := Bd.bytes
  have hml : c.maxLocals = 15 := hml0
  have hown : s.vm.findClass "com/example/horarium/horarium/engine/CampusScoreHardPinLaw" = some m.cls := findClass_of_methodNamed Bd.named
  have hnm := (name_of_methodNamed Bd.named Bd.method).1
  have X0 : Stand p l e room_1 s m #[(.long qb), (.long qx), (.long qy), (.int sel), (.long qp), (.int qq)] below meth c s₁ [] 0 0 := Stand.of_body Bd
  have e0 : s₁.heap = h0 := by rw [← hh, Bd.state]; rfl
  have N0 := Fr.nil n0
  obtain ⟨G0, hG0⟩ : ∃ G, G = s₁.setTop (entryFrame m #[(.long qb), (.long qx), (.long qy), (.int sel), (.long qp), (.int qq)] maxLocals) := ⟨_, rfl⟩
  have K0 : ∀ t, Steps p.tables e below (s₁.setTop (mkF m 0 #[.val (.long qb), .second, .val (.long qx), .second, .val (.long qy), .second, .val (.int sel), .val (.long qp), .second, .val (.int qq), .unset, .unset, .unset, .unset, .unset] [])) t → Steps p.tables e below G0 t := fun t k => by rw [hG0]; exact castTop (ef_rm0 m qb qx qy sel qp qq) k
  have hj := own_j sel
  have K1 : ∀ t, Steps p.tables e below (s₁.setTop (mkF m 10 #[.val (.long qb), .second, .val (.long qx), .second, .val (.long qy), .second, .val (.int sel), .val (.long qp), .second, .val (.int qq), .val (.int ((sel &&& (2147483647 : Int32)) % (9 : Int32))), .unset, .unset, .unset, .unset] [])) t → Steps p.tables e below G0 t := by
    intro t kt
    refine K0 t ?_
    refine XS.iload X0.here hx rfl (hb hby at_0) rfl ?_
    show Steps p.tables e below (s₁.setTop (mkF m 2 #[.val (.long qb), .second, .val (.long qx), .second, .val (.long qy), .second, .val (.int sel), .val (.long qp), .second, .val (.int qq), .unset, .unset, .unset, .unset, .unset] [(.int sel)])) _
    refine X0.ldcInt hx hown (mvT hZ (hw _ (List.mem_of_getElem? (i := 0) rfl))) (g := (mkF m 2 #[.val (.long qb), .second, .val (.long qx), .second, .val (.long qy), .second, .val (.int sel), .val (.long qp), .second, .val (.int qq), .unset, .unset, .unset, .unset, .unset] [(.int sel)])) rfl (hb hby at_2) _ ?_
    show Steps p.tables e below (s₁.setTop (mkF m 4 #[.val (.long qb), .second, .val (.long qx), .second, .val (.long qy), .second, .val (.int sel), .val (.long qp), .second, .val (.int qq), .unset, .unset, .unset, .unset, .unset] [(.int (2147483647 : Int32)), (.int sel)])) _
    refine XS.iand X0.here hx rfl (hb hby at_4) rfl ?_
    show Steps p.tables e below (s₁.setTop (mkF m 5 #[.val (.long qb), .second, .val (.long qx), .second, .val (.long qy), .second, .val (.int sel), .val (.long qp), .second, .val (.int qq), .unset, .unset, .unset, .unset, .unset] [(.int (sel &&& (2147483647 : Int32)))])) _
    refine XS.bipush X0.here hx rfl (hb hby at_5) ?_
    show Steps p.tables e below (s₁.setTop (mkF m 7 #[.val (.long qb), .second, .val (.long qx), .second, .val (.long qy), .second, .val (.int sel), .val (.long qp), .second, .val (.int qq), .unset, .unset, .unset, .unset, .unset] [(.int (9 : Int32)), (.int (sel &&& (2147483647 : Int32)))])) _
    refine iremM X0 hx rfl (hb hby at_7) rfl (by decide) ?_
    show Steps p.tables e below (s₁.setTop (mkF m 8 #[.val (.long qb), .second, .val (.long qx), .second, .val (.long qy), .second, .val (.int sel), .val (.long qp), .second, .val (.int qq), .unset, .unset, .unset, .unset, .unset] [(.int ((sel &&& (2147483647 : Int32)) % (9 : Int32)))])) _
    refine XS.istore X0.here hx rfl (hb hby at_8) rfl (l' := #[.val (.long qb), .second, .val (.long qx), .second, .val (.long qy), .second, .val (.int sel), .val (.long qp), .second, .val (.int qq), .val (.int ((sel &&& (2147483647 : Int32)) % (9 : Int32))), .unset, .unset, .unset, .unset]) rfl ?_
    show Steps p.tables e below (s₁.setTop (mkF m 10 #[.val (.long qb), .second, .val (.long qx), .second, .val (.long qy), .second, .val (.int sel), .val (.long qp), .second, .val (.int qq), .val (.int ((sel &&& (2147483647 : Int32)) % (9 : Int32))), .unset, .unset, .unset, .unset] [])) _
    exact kt
  obtain ⟨j, h_j⟩ : ∃ z, z = ((sel &&& (2147483647 : Int32)) % (9 : Int32)) := ⟨_, rfl⟩
  rw [← h_j] at K1
  rw [← h_j] at hj
  have hk := own_k j sel hj.1 hj.2
  have K2 : ∀ t, Steps p.tables e below (s₁.setTop (mkF m 28 #[.val (.long qb), .second, .val (.long qx), .second, .val (.long qy), .second, .val (.int sel), .val (.long qp), .second, .val (.int qq), .val (.int j), .val (.int (((j + (1 : Int32)) + (((sel.toUInt32 >>> ((8 : Int32) &&& 31).toUInt32).toInt32) % (8 : Int32))) % (9 : Int32))), .unset, .unset, .unset] [])) t → Steps p.tables e below G0 t := by
    intro t kt
    refine K1 t ?_
    refine XS.iload X0.here hx rfl (hb hby at_10) rfl ?_
    show Steps p.tables e below (s₁.setTop (mkF m 12 #[.val (.long qb), .second, .val (.long qx), .second, .val (.long qy), .second, .val (.int sel), .val (.long qp), .second, .val (.int qq), .val (.int j), .unset, .unset, .unset, .unset] [(.int j)])) _
    refine XS.iconst X0.here hx rfl (hb hby at_12) ?_
    show Steps p.tables e below (s₁.setTop (mkF m 13 #[.val (.long qb), .second, .val (.long qx), .second, .val (.long qy), .second, .val (.int sel), .val (.long qp), .second, .val (.int qq), .val (.int j), .unset, .unset, .unset, .unset] [(.int (1 : Int32)), (.int j)])) _
    refine XS.iadd X0.here hx rfl (hb hby at_13) rfl ?_
    show Steps p.tables e below (s₁.setTop (mkF m 14 #[.val (.long qb), .second, .val (.long qx), .second, .val (.long qy), .second, .val (.int sel), .val (.long qp), .second, .val (.int qq), .val (.int j), .unset, .unset, .unset, .unset] [(.int (j + (1 : Int32)))])) _
    refine XS.iload X0.here hx rfl (hb hby at_14) rfl ?_
    show Steps p.tables e below (s₁.setTop (mkF m 16 #[.val (.long qb), .second, .val (.long qx), .second, .val (.long qy), .second, .val (.int sel), .val (.long qp), .second, .val (.int qq), .val (.int j), .unset, .unset, .unset, .unset] [(.int sel), (.int (j + (1 : Int32)))])) _
    refine XS.bipush X0.here hx rfl (hb hby at_16) ?_
    show Steps p.tables e below (s₁.setTop (mkF m 18 #[.val (.long qb), .second, .val (.long qx), .second, .val (.long qy), .second, .val (.int sel), .val (.long qp), .second, .val (.int qq), .val (.int j), .unset, .unset, .unset, .unset] [(.int (8 : Int32)), (.int sel), (.int (j + (1 : Int32)))])) _
    refine XS.iushr X0.here hx rfl (hb hby at_18) rfl ?_
    show Steps p.tables e below (s₁.setTop (mkF m 19 #[.val (.long qb), .second, .val (.long qx), .second, .val (.long qy), .second, .val (.int sel), .val (.long qp), .second, .val (.int qq), .val (.int j), .unset, .unset, .unset, .unset] [(.int ((sel.toUInt32 >>> ((8 : Int32) &&& 31).toUInt32).toInt32)), (.int (j + (1 : Int32)))])) _
    refine XS.bipush X0.here hx rfl (hb hby at_19) ?_
    show Steps p.tables e below (s₁.setTop (mkF m 21 #[.val (.long qb), .second, .val (.long qx), .second, .val (.long qy), .second, .val (.int sel), .val (.long qp), .second, .val (.int qq), .val (.int j), .unset, .unset, .unset, .unset] [(.int (8 : Int32)), (.int ((sel.toUInt32 >>> ((8 : Int32) &&& 31).toUInt32).toInt32)), (.int (j + (1 : Int32)))])) _
    refine iremM X0 hx rfl (hb hby at_21) rfl (by decide) ?_
    show Steps p.tables e below (s₁.setTop (mkF m 22 #[.val (.long qb), .second, .val (.long qx), .second, .val (.long qy), .second, .val (.int sel), .val (.long qp), .second, .val (.int qq), .val (.int j), .unset, .unset, .unset, .unset] [(.int (((sel.toUInt32 >>> ((8 : Int32) &&& 31).toUInt32).toInt32) % (8 : Int32))), (.int (j + (1 : Int32)))])) _
    refine XS.iadd X0.here hx rfl (hb hby at_22) rfl ?_
    show Steps p.tables e below (s₁.setTop (mkF m 23 #[.val (.long qb), .second, .val (.long qx), .second, .val (.long qy), .second, .val (.int sel), .val (.long qp), .second, .val (.int qq), .val (.int j), .unset, .unset, .unset, .unset] [(.int ((j + (1 : Int32)) + (((sel.toUInt32 >>> ((8 : Int32) &&& 31).toUInt32).toInt32) % (8 : Int32))))])) _
    refine XS.bipush X0.here hx rfl (hb hby at_23) ?_
    show Steps p.tables e below (s₁.setTop (mkF m 25 #[.val (.long qb), .second, .val (.long qx), .second, .val (.long qy), .second, .val (.int sel), .val (.long qp), .second, .val (.int qq), .val (.int j), .unset, .unset, .unset, .unset] [(.int (9 : Int32)), (.int ((j + (1 : Int32)) + (((sel.toUInt32 >>> ((8 : Int32) &&& 31).toUInt32).toInt32) % (8 : Int32))))])) _
    refine iremM X0 hx rfl (hb hby at_25) rfl (by decide) ?_
    show Steps p.tables e below (s₁.setTop (mkF m 26 #[.val (.long qb), .second, .val (.long qx), .second, .val (.long qy), .second, .val (.int sel), .val (.long qp), .second, .val (.int qq), .val (.int j), .unset, .unset, .unset, .unset] [(.int (((j + (1 : Int32)) + (((sel.toUInt32 >>> ((8 : Int32) &&& 31).toUInt32).toInt32) % (8 : Int32))) % (9 : Int32)))])) _
    refine XS.istore X0.here hx rfl (hb hby at_26) rfl (l' := #[.val (.long qb), .second, .val (.long qx), .second, .val (.long qy), .second, .val (.int sel), .val (.long qp), .second, .val (.int qq), .val (.int j), .val (.int (((j + (1 : Int32)) + (((sel.toUInt32 >>> ((8 : Int32) &&& 31).toUInt32).toInt32) % (8 : Int32))) % (9 : Int32))), .unset, .unset, .unset]) rfl ?_
    show Steps p.tables e below (s₁.setTop (mkF m 28 #[.val (.long qb), .second, .val (.long qx), .second, .val (.long qy), .second, .val (.int sel), .val (.long qp), .second, .val (.int qq), .val (.int j), .val (.int (((j + (1 : Int32)) + (((sel.toUInt32 >>> ((8 : Int32) &&& 31).toUInt32).toInt32) % (8 : Int32))) % (9 : Int32))), .unset, .unset, .unset] [])) _
    exact kt
  obtain ⟨k, h_k⟩ : ∃ z, z = (((j + (1 : Int32)) + (((sel.toUInt32 >>> ((8 : Int32) &&& 31).toUInt32).toInt32) % (8 : Int32))) % (9 : Int32)) := ⟨_, rfl⟩
  rw [← h_k] at K2
  rw [← h_k] at hk
  obtain ⟨T3, h3, X3, e3, E3, A3, D3, -, st3⟩ := newO X0 hx hZ hown (hw _ (List.mem_of_getElem? (i := 1) rfl)) (hw _ (List.mem_of_getElem? (i := 2) rfl)) (hw _ (List.mem_of_getElem? (i := 3) rfl)) e0 (g := (mkF m 28 #[.val (.long qb), .second, .val (.long qx), .second, .val (.long qy), .second, .val (.int sel), .val (.long qp), .second, .val (.int qq), .val (.int j), .val (.int k), .unset, .unset, .unset] [])) rfl (hb hby at_28) (by decide) (by decide)
  obtain ⟨b3, g3⟩ : ∃ z, z = h0.size := ⟨_, rfl⟩
  rw [← g3] at A3 D3 st3
  have gn3 : n0 ≤ b3 := Nat.le_trans Z0 (Nat.le_of_eq g3.symm)
  have Z3 : n0 ≤ h3.size := Nat.le_trans Z0 E3.1
  have K3 : ∀ t, Steps p.tables e below (T3.setTop (mkF m 31 #[.val (.long qb), .second, .val (.long qx), .second, .val (.long qy), .second, .val (.int sel), .val (.long qp), .second, .val (.int qq), .val (.int j), .val (.int k), .unset, .unset, .unset] [(.ref b3)])) t → Steps p.tables e below G0 t := fun t kt => K2 t (st3 _ kt)
  have F_lessons_b3 := (D3 (Or.inr (hw _ (List.mem_of_getElem? (i := 20) rfl))) (ty := .long) (by decide) : Fld Z h3 b3 "com/example/horarium/horarium/engine/CampusScore" "lessons" "J" (.long (0 : Int64)))
  have F_roomClashes_b3 := (D3 (Or.inr (hw _ (List.mem_of_getElem? (i := 22) rfl))) (ty := .long) (by decide) : Fld Z h3 b3 "com/example/horarium/horarium/engine/CampusScore" "roomClashes" "J" (.long (0 : Int64)))
  have F_teacherClashes_b3 := (D3 (Or.inr (hw _ (List.mem_of_getElem? (i := 24) rfl))) (ty := .long) (by decide) : Fld Z h3 b3 "com/example/horarium/horarium/engine/CampusScore" "teacherClashes" "J" (.long (0 : Int64)))
  have F_curriculumClashes_b3 := (D3 (Or.inr (hw _ (List.mem_of_getElem? (i := 26) rfl))) (ty := .long) (by decide) : Fld Z h3 b3 "com/example/horarium/horarium/engine/CampusScore" "curriculumClashes" "J" (.long (0 : Int64)))
  have F_unavailable_b3 := (D3 (Or.inr (hw _ (List.mem_of_getElem? (i := 28) rfl))) (ty := .long) (by decide) : Fld Z h3 b3 "com/example/horarium/horarium/engine/CampusScore" "unavailable" "J" (.long (0 : Int64)))
  have F_unqualified_b3 := (D3 (Or.inr (hw _ (List.mem_of_getElem? (i := 30) rfl))) (ty := .long) (by decide) : Fld Z h3 b3 "com/example/horarium/horarium/engine/CampusScore" "unqualified" "J" (.long (0 : Int64)))
  have F_splitTeacher_b3 := (D3 (Or.inr (hw _ (List.mem_of_getElem? (i := 32) rfl))) (ty := .long) (by decide) : Fld Z h3 b3 "com/example/horarium/horarium/engine/CampusScore" "splitTeacher" "J" (.long (0 : Int64)))
  have F_wrongRoom_b3 := (D3 (Or.inr (hw _ (List.mem_of_getElem? (i := 34) rfl))) (ty := .long) (by decide) : Fld Z h3 b3 "com/example/horarium/horarium/engine/CampusScore" "wrongRoom" "J" (.long (0 : Int64)))
  have F_wrongShift_b3 := (D3 (Or.inr (hw _ (List.mem_of_getElem? (i := 36) rfl))) (ty := .long) (by decide) : Fld Z h3 b3 "com/example/horarium/horarium/engine/CampusScore" "wrongShift" "J" (.long (0 : Int64)))
  have F_placed_b3 := (D3 (Or.inr (hw _ (List.mem_of_getElem? (i := 38) rfl))) (ty := .long) (by decide) : Fld Z h3 b3 "com/example/horarium/horarium/engine/CampusScore" "placed" "J" (.long (0 : Int64)))
  have F_preferred_b3 := (D3 (Or.inr (hw _ (List.mem_of_getElem? (i := 40) rfl))) (ty := .long) (by decide) : Fld Z h3 b3 "com/example/horarium/horarium/engine/CampusScore" "preferred" "J" (.long (0 : Int64)))
  have F_loadStddev_b3 := (D3 (Or.inr (hw _ (List.mem_of_getElem? (i := 42) rfl))) (ty := .double) (by decide) : Fld Z h3 b3 "com/example/horarium/horarium/engine/CampusScore" "loadStddev" "D" (.double 0))
  have K4 : ∀ t, Steps p.tables e below (T3.setTop (mkF m 41 #[.val (.long qb), .second, .val (.long qx), .second, .val (.long qy), .second, .val (.int sel), .val (.long qp), .second, .val (.int qq), .val (.int j), .val (.int k), .unset, .unset, .unset] [(.long qy), (.long qx), (.long qb), (.int k), (.int j), (.int (0 : Int32)), (.ref b3), (.ref b3)])) t → Steps p.tables e below G0 t := by
    intro t kt
    refine K3 t ?_
    refine XS.dup X3.here hx rfl (hb hby at_31) rfl rfl ?_
    show Steps p.tables e below (T3.setTop (mkF m 32 #[.val (.long qb), .second, .val (.long qx), .second, .val (.long qy), .second, .val (.int sel), .val (.long qp), .second, .val (.int qq), .val (.int j), .val (.int k), .unset, .unset, .unset] [(.ref b3), (.ref b3)])) _
    refine XS.iconst X3.here hx rfl (hb hby at_32) ?_
    show Steps p.tables e below (T3.setTop (mkF m 33 #[.val (.long qb), .second, .val (.long qx), .second, .val (.long qy), .second, .val (.int sel), .val (.long qp), .second, .val (.int qq), .val (.int j), .val (.int k), .unset, .unset, .unset] [(.int (0 : Int32)), (.ref b3), (.ref b3)])) _
    refine XS.iload X3.here hx rfl (hb hby at_33) rfl ?_
    show Steps p.tables e below (T3.setTop (mkF m 35 #[.val (.long qb), .second, .val (.long qx), .second, .val (.long qy), .second, .val (.int sel), .val (.long qp), .second, .val (.int qq), .val (.int j), .val (.int k), .unset, .unset, .unset] [(.int j), (.int (0 : Int32)), (.ref b3), (.ref b3)])) _
    refine XS.iload X3.here hx rfl (hb hby at_35) rfl ?_
    show Steps p.tables e below (T3.setTop (mkF m 37 #[.val (.long qb), .second, .val (.long qx), .second, .val (.long qy), .second, .val (.int sel), .val (.long qp), .second, .val (.int qq), .val (.int j), .val (.int k), .unset, .unset, .unset] [(.int k), (.int j), (.int (0 : Int32)), (.ref b3), (.ref b3)])) _
    refine XS.lloadN X3.here hx rfl (hb hby at_37) rfl ?_
    show Steps p.tables e below (T3.setTop (mkF m 38 #[.val (.long qb), .second, .val (.long qx), .second, .val (.long qy), .second, .val (.int sel), .val (.long qp), .second, .val (.int qq), .val (.int j), .val (.int k), .unset, .unset, .unset] [(.long qb), (.int k), (.int j), (.int (0 : Int32)), (.ref b3), (.ref b3)])) _
    refine XS.lloadN X3.here hx rfl (hb hby at_38) rfl ?_
    show Steps p.tables e below (T3.setTop (mkF m 39 #[.val (.long qb), .second, .val (.long qx), .second, .val (.long qy), .second, .val (.int sel), .val (.long qp), .second, .val (.int qq), .val (.int j), .val (.int k), .unset, .unset, .unset] [(.long qx), (.long qb), (.int k), (.int j), (.int (0 : Int32)), (.ref b3), (.ref b3)])) _
    refine XS.lload X3.here hx rfl (hb hby at_39) rfl ?_
    show Steps p.tables e below (T3.setTop (mkF m 41 #[.val (.long qb), .second, .val (.long qx), .second, .val (.long qy), .second, .val (.int sel), .val (.long qp), .second, .val (.int qq), .val (.int j), .val (.int k), .unset, .unset, .unset] [(.long qy), (.long qx), (.long qb), (.int k), (.int j), (.int (0 : Int32)), (.ref b3), (.ref b3)])) _
    exact kt
  obtain ⟨_, _, ⟨T5, L5, k5, n5⟩, -, X5, ⟨Lc5, hQ5, l5, y5, z5⟩, st5⟩ := Jvm.LawKit.callS X3 hx (y := (⟨"com/example/horarium/horarium/engine/CampusScoreHardPinLaw", "f", "(IIIJJJ)J"⟩ : MethodName)) hown (mvT hZ (hw _ (List.mem_of_getElem? (i := 4) rfl))) (mvT hZ (hw _ (List.mem_of_getElem? (i := 5) rfl))) (mvT hZ (hw _ (List.mem_of_getElem? (i := 6) rfl))) (mvT hZ (hw _ (List.mem_of_getElem? (i := 7) rfl))) (by decide) (backOf (W := 2) (rm1 l Z aa hw [] ((0 : Int32)) (j) (k) (qb) (qx) (qy)  h3 n0 Z3 ) hZ (hw _ (List.mem_of_getElem? (i := 7) rfl)) (hw _ (List.mem_of_getElem? (i := 6) rfl)) (by decide) (by decide)) (g := (mkF m 41 #[.val (.long qb), .second, .val (.long qx), .second, .val (.long qy), .second, .val (.int sel), .val (.long qp), .second, .val (.int qq), .val (.int j), .val (.int k), .unset, .unset, .unset] [(.long qy), (.long qx), (.long qb), (.int k), (.int j), (.int (0 : Int32)), (.ref b3), (.ref b3)])) rfl (by rw [hml]; rfl) (argsL := [(.int (0 : Int32)), (.int j), (.int k), (.long qb), (.long qx), (.long qy)]) (rest := [(.ref b3), (.ref b3)]) (lenOf pd_PIIIJJJQJ rfl) rfl (by show 2 * 0 + _ ≤ _; exact Nat.le_of_eq rfl) (hb hby at_41) (fun _ _ => ⟨rfl, e3, (by decide : 1 + 0 ≤ _), (by decide : 12 + 0 ≤ _)⟩)
  dsimp only [Pt.U, Pt.locs, Pt.cells, Pt.slots] at X5 l5 y5 z5 st5 hQ5
  subst l5 y5 z5
  obtain ⟨rfl, N5q, e5⟩ := hQ5
  have N5 := Fr.app N0 N5q
  have K5 : ∀ t, Steps p.tables e below (T5.setTop (mkF m 44 #[.val (.long qb), .second, .val (.long qx), .second, .val (.long qy), .second, .val (.int sel), .val (.long qp), .second, .val (.int qq), .val (.int j), .val (.int k), .unset, .unset, .unset] [(.long (own_f (0 : Int32) j k qb qx qy)), (.ref b3), (.ref b3)])) t → Steps p.tables e below G0 t := fun t kt => K4 t (st5 _ kt)
  have K6 : ∀ t, Steps p.tables e below (T5.setTop (mkF m 53 #[.val (.long qb), .second, .val (.long qx), .second, .val (.long qy), .second, .val (.int sel), .val (.long qp), .second, .val (.int qq), .val (.int j), .val (.int k), .unset, .unset, .unset] [(.long qy), (.long qx), (.long qb), (.int k), (.int j), (.int (1 : Int32)), (.long (own_f (0 : Int32) j k qb qx qy)), (.ref b3), (.ref b3)])) t → Steps p.tables e below G0 t := by
    intro t kt
    refine K5 t ?_
    refine XS.iconst X5.here hx rfl (hb hby at_44) ?_
    show Steps p.tables e below (T5.setTop (mkF m 45 #[.val (.long qb), .second, .val (.long qx), .second, .val (.long qy), .second, .val (.int sel), .val (.long qp), .second, .val (.int qq), .val (.int j), .val (.int k), .unset, .unset, .unset] [(.int (1 : Int32)), (.long (own_f (0 : Int32) j k qb qx qy)), (.ref b3), (.ref b3)])) _
    refine XS.iload X5.here hx rfl (hb hby at_45) rfl ?_
    show Steps p.tables e below (T5.setTop (mkF m 47 #[.val (.long qb), .second, .val (.long qx), .second, .val (.long qy), .second, .val (.int sel), .val (.long qp), .second, .val (.int qq), .val (.int j), .val (.int k), .unset, .unset, .unset] [(.int j), (.int (1 : Int32)), (.long (own_f (0 : Int32) j k qb qx qy)), (.ref b3), (.ref b3)])) _
    refine XS.iload X5.here hx rfl (hb hby at_47) rfl ?_
    show Steps p.tables e below (T5.setTop (mkF m 49 #[.val (.long qb), .second, .val (.long qx), .second, .val (.long qy), .second, .val (.int sel), .val (.long qp), .second, .val (.int qq), .val (.int j), .val (.int k), .unset, .unset, .unset] [(.int k), (.int j), (.int (1 : Int32)), (.long (own_f (0 : Int32) j k qb qx qy)), (.ref b3), (.ref b3)])) _
    refine XS.lloadN X5.here hx rfl (hb hby at_49) rfl ?_
    show Steps p.tables e below (T5.setTop (mkF m 50 #[.val (.long qb), .second, .val (.long qx), .second, .val (.long qy), .second, .val (.int sel), .val (.long qp), .second, .val (.int qq), .val (.int j), .val (.int k), .unset, .unset, .unset] [(.long qb), (.int k), (.int j), (.int (1 : Int32)), (.long (own_f (0 : Int32) j k qb qx qy)), (.ref b3), (.ref b3)])) _
    refine XS.lloadN X5.here hx rfl (hb hby at_50) rfl ?_
    show Steps p.tables e below (T5.setTop (mkF m 51 #[.val (.long qb), .second, .val (.long qx), .second, .val (.long qy), .second, .val (.int sel), .val (.long qp), .second, .val (.int qq), .val (.int j), .val (.int k), .unset, .unset, .unset] [(.long qx), (.long qb), (.int k), (.int j), (.int (1 : Int32)), (.long (own_f (0 : Int32) j k qb qx qy)), (.ref b3), (.ref b3)])) _
    refine XS.lload X5.here hx rfl (hb hby at_51) rfl ?_
    show Steps p.tables e below (T5.setTop (mkF m 53 #[.val (.long qb), .second, .val (.long qx), .second, .val (.long qy), .second, .val (.int sel), .val (.long qp), .second, .val (.int qq), .val (.int j), .val (.int k), .unset, .unset, .unset] [(.long qy), (.long qx), (.long qb), (.int k), (.int j), (.int (1 : Int32)), (.long (own_f (0 : Int32) j k qb qx qy)), (.ref b3), (.ref b3)])) _
    exact kt
  obtain ⟨_, _, ⟨T7, L7, k7, n7⟩, -, X7, ⟨Lc7, hQ7, l7, y7, z7⟩, st7⟩ := Jvm.LawKit.callS X5 hx (y := (⟨"com/example/horarium/horarium/engine/CampusScoreHardPinLaw", "f", "(IIIJJJ)J"⟩ : MethodName)) hown (mvT hZ (hw _ (List.mem_of_getElem? (i := 4) rfl))) (mvT hZ (hw _ (List.mem_of_getElem? (i := 5) rfl))) (mvT hZ (hw _ (List.mem_of_getElem? (i := 6) rfl))) (mvT hZ (hw _ (List.mem_of_getElem? (i := 7) rfl))) (by decide) (backOf (W := 4) (rm1 l Z aa hw [] ((1 : Int32)) (j) (k) (qb) (qx) (qy)  h3 n0 Z3 ) hZ (hw _ (List.mem_of_getElem? (i := 7) rfl)) (hw _ (List.mem_of_getElem? (i := 6) rfl)) (by decide) (by decide)) (g := (mkF m 53 #[.val (.long qb), .second, .val (.long qx), .second, .val (.long qy), .second, .val (.int sel), .val (.long qp), .second, .val (.int qq), .val (.int j), .val (.int k), .unset, .unset, .unset] [(.long qy), (.long qx), (.long qb), (.int k), (.int j), (.int (1 : Int32)), (.long (own_f (0 : Int32) j k qb qx qy)), (.ref b3), (.ref b3)])) rfl (by rw [hml]; rfl) (argsL := [(.int (1 : Int32)), (.int j), (.int k), (.long qb), (.long qx), (.long qy)]) (rest := [(.long (own_f (0 : Int32) j k qb qx qy)), (.ref b3), (.ref b3)]) (lenOf pd_PIIIJJJQJ rfl) rfl (by show 2 * 0 + _ ≤ _; exact Nat.le_of_eq rfl) (hb hby at_53) (fun _ _ => ⟨rfl, e5, (by decide : 1 + 0 ≤ _), (by decide : 12 + 0 ≤ _)⟩)
  dsimp only [Pt.U, Pt.locs, Pt.cells, Pt.slots] at X7 l7 y7 z7 st7 hQ7
  subst l7 y7 z7
  obtain ⟨rfl, N7q, e7⟩ := hQ7
  have N7 := Fr.app N5 N7q
  have K7 : ∀ t, Steps p.tables e below (T7.setTop (mkF m 56 #[.val (.long qb), .second, .val (.long qx), .second, .val (.long qy), .second, .val (.int sel), .val (.long qp), .second, .val (.int qq), .val (.int j), .val (.int k), .unset, .unset, .unset] [(.long (own_f (1 : Int32) j k qb qx qy)), (.long (own_f (0 : Int32) j k qb qx qy)), (.ref b3), (.ref b3)])) t → Steps p.tables e below G0 t := fun t kt => K6 t (st7 _ kt)
  have K8 : ∀ t, Steps p.tables e below (T7.setTop (mkF m 65 #[.val (.long qb), .second, .val (.long qx), .second, .val (.long qy), .second, .val (.int sel), .val (.long qp), .second, .val (.int qq), .val (.int j), .val (.int k), .unset, .unset, .unset] [(.long qy), (.long qx), (.long qb), (.int k), (.int j), (.int (2 : Int32)), (.long (own_f (1 : Int32) j k qb qx qy)), (.long (own_f (0 : Int32) j k qb qx qy)), (.ref b3), (.ref b3)])) t → Steps p.tables e below G0 t := by
    intro t kt
    refine K7 t ?_
    refine XS.iconst X7.here hx rfl (hb hby at_56) ?_
    show Steps p.tables e below (T7.setTop (mkF m 57 #[.val (.long qb), .second, .val (.long qx), .second, .val (.long qy), .second, .val (.int sel), .val (.long qp), .second, .val (.int qq), .val (.int j), .val (.int k), .unset, .unset, .unset] [(.int (2 : Int32)), (.long (own_f (1 : Int32) j k qb qx qy)), (.long (own_f (0 : Int32) j k qb qx qy)), (.ref b3), (.ref b3)])) _
    refine XS.iload X7.here hx rfl (hb hby at_57) rfl ?_
    show Steps p.tables e below (T7.setTop (mkF m 59 #[.val (.long qb), .second, .val (.long qx), .second, .val (.long qy), .second, .val (.int sel), .val (.long qp), .second, .val (.int qq), .val (.int j), .val (.int k), .unset, .unset, .unset] [(.int j), (.int (2 : Int32)), (.long (own_f (1 : Int32) j k qb qx qy)), (.long (own_f (0 : Int32) j k qb qx qy)), (.ref b3), (.ref b3)])) _
    refine XS.iload X7.here hx rfl (hb hby at_59) rfl ?_
    show Steps p.tables e below (T7.setTop (mkF m 61 #[.val (.long qb), .second, .val (.long qx), .second, .val (.long qy), .second, .val (.int sel), .val (.long qp), .second, .val (.int qq), .val (.int j), .val (.int k), .unset, .unset, .unset] [(.int k), (.int j), (.int (2 : Int32)), (.long (own_f (1 : Int32) j k qb qx qy)), (.long (own_f (0 : Int32) j k qb qx qy)), (.ref b3), (.ref b3)])) _
    refine XS.lloadN X7.here hx rfl (hb hby at_61) rfl ?_
    show Steps p.tables e below (T7.setTop (mkF m 62 #[.val (.long qb), .second, .val (.long qx), .second, .val (.long qy), .second, .val (.int sel), .val (.long qp), .second, .val (.int qq), .val (.int j), .val (.int k), .unset, .unset, .unset] [(.long qb), (.int k), (.int j), (.int (2 : Int32)), (.long (own_f (1 : Int32) j k qb qx qy)), (.long (own_f (0 : Int32) j k qb qx qy)), (.ref b3), (.ref b3)])) _
    refine XS.lloadN X7.here hx rfl (hb hby at_62) rfl ?_
    show Steps p.tables e below (T7.setTop (mkF m 63 #[.val (.long qb), .second, .val (.long qx), .second, .val (.long qy), .second, .val (.int sel), .val (.long qp), .second, .val (.int qq), .val (.int j), .val (.int k), .unset, .unset, .unset] [(.long qx), (.long qb), (.int k), (.int j), (.int (2 : Int32)), (.long (own_f (1 : Int32) j k qb qx qy)), (.long (own_f (0 : Int32) j k qb qx qy)), (.ref b3), (.ref b3)])) _
    refine XS.lload X7.here hx rfl (hb hby at_63) rfl ?_
    show Steps p.tables e below (T7.setTop (mkF m 65 #[.val (.long qb), .second, .val (.long qx), .second, .val (.long qy), .second, .val (.int sel), .val (.long qp), .second, .val (.int qq), .val (.int j), .val (.int k), .unset, .unset, .unset] [(.long qy), (.long qx), (.long qb), (.int k), (.int j), (.int (2 : Int32)), (.long (own_f (1 : Int32) j k qb qx qy)), (.long (own_f (0 : Int32) j k qb qx qy)), (.ref b3), (.ref b3)])) _
    exact kt
  obtain ⟨_, _, ⟨T9, L9, k9, n9⟩, -, X9, ⟨Lc9, hQ9, l9, y9, z9⟩, st9⟩ := Jvm.LawKit.callS X7 hx (y := (⟨"com/example/horarium/horarium/engine/CampusScoreHardPinLaw", "f", "(IIIJJJ)J"⟩ : MethodName)) hown (mvT hZ (hw _ (List.mem_of_getElem? (i := 4) rfl))) (mvT hZ (hw _ (List.mem_of_getElem? (i := 5) rfl))) (mvT hZ (hw _ (List.mem_of_getElem? (i := 6) rfl))) (mvT hZ (hw _ (List.mem_of_getElem? (i := 7) rfl))) (by decide) (backOf (W := 6) (rm1 l Z aa hw [] ((2 : Int32)) (j) (k) (qb) (qx) (qy)  h3 n0 Z3 ) hZ (hw _ (List.mem_of_getElem? (i := 7) rfl)) (hw _ (List.mem_of_getElem? (i := 6) rfl)) (by decide) (by decide)) (g := (mkF m 65 #[.val (.long qb), .second, .val (.long qx), .second, .val (.long qy), .second, .val (.int sel), .val (.long qp), .second, .val (.int qq), .val (.int j), .val (.int k), .unset, .unset, .unset] [(.long qy), (.long qx), (.long qb), (.int k), (.int j), (.int (2 : Int32)), (.long (own_f (1 : Int32) j k qb qx qy)), (.long (own_f (0 : Int32) j k qb qx qy)), (.ref b3), (.ref b3)])) rfl (by rw [hml]; rfl) (argsL := [(.int (2 : Int32)), (.int j), (.int k), (.long qb), (.long qx), (.long qy)]) (rest := [(.long (own_f (1 : Int32) j k qb qx qy)), (.long (own_f (0 : Int32) j k qb qx qy)), (.ref b3), (.ref b3)]) (lenOf pd_PIIIJJJQJ rfl) rfl (by show 2 * 0 + _ ≤ _; exact Nat.le_of_eq rfl) (hb hby at_65) (fun _ _ => ⟨rfl, e7, (by decide : 1 + 0 ≤ _), (by decide : 12 + 0 ≤ _)⟩)
  dsimp only [Pt.U, Pt.locs, Pt.cells, Pt.slots] at X9 l9 y9 z9 st9 hQ9
  subst l9 y9 z9
  obtain ⟨rfl, N9q, e9⟩ := hQ9
  have N9 := Fr.app N7 N9q
  have K9 : ∀ t, Steps p.tables e below (T9.setTop (mkF m 68 #[.val (.long qb), .second, .val (.long qx), .second, .val (.long qy), .second, .val (.int sel), .val (.long qp), .second, .val (.int qq), .val (.int j), .val (.int k), .unset, .unset, .unset] [(.long (own_f (2 : Int32) j k qb qx qy)), (.long (own_f (1 : Int32) j k qb qx qy)), (.long (own_f (0 : Int32) j k qb qx qy)), (.ref b3), (.ref b3)])) t → Steps p.tables e below G0 t := fun t kt => K8 t (st9 _ kt)
  have K10 : ∀ t, Steps p.tables e below (T9.setTop (mkF m 77 #[.val (.long qb), .second, .val (.long qx), .second, .val (.long qy), .second, .val (.int sel), .val (.long qp), .second, .val (.int qq), .val (.int j), .val (.int k), .unset, .unset, .unset] [(.long qy), (.long qx), (.long qb), (.int k), (.int j), (.int (3 : Int32)), (.long (own_f (2 : Int32) j k qb qx qy)), (.long (own_f (1 : Int32) j k qb qx qy)), (.long (own_f (0 : Int32) j k qb qx qy)), (.ref b3), (.ref b3)])) t → Steps p.tables e below G0 t := by
    intro t kt
    refine K9 t ?_
    refine XS.iconst X9.here hx rfl (hb hby at_68) ?_
    show Steps p.tables e below (T9.setTop (mkF m 69 #[.val (.long qb), .second, .val (.long qx), .second, .val (.long qy), .second, .val (.int sel), .val (.long qp), .second, .val (.int qq), .val (.int j), .val (.int k), .unset, .unset, .unset] [(.int (3 : Int32)), (.long (own_f (2 : Int32) j k qb qx qy)), (.long (own_f (1 : Int32) j k qb qx qy)), (.long (own_f (0 : Int32) j k qb qx qy)), (.ref b3), (.ref b3)])) _
    refine XS.iload X9.here hx rfl (hb hby at_69) rfl ?_
    show Steps p.tables e below (T9.setTop (mkF m 71 #[.val (.long qb), .second, .val (.long qx), .second, .val (.long qy), .second, .val (.int sel), .val (.long qp), .second, .val (.int qq), .val (.int j), .val (.int k), .unset, .unset, .unset] [(.int j), (.int (3 : Int32)), (.long (own_f (2 : Int32) j k qb qx qy)), (.long (own_f (1 : Int32) j k qb qx qy)), (.long (own_f (0 : Int32) j k qb qx qy)), (.ref b3), (.ref b3)])) _
    refine XS.iload X9.here hx rfl (hb hby at_71) rfl ?_
    show Steps p.tables e below (T9.setTop (mkF m 73 #[.val (.long qb), .second, .val (.long qx), .second, .val (.long qy), .second, .val (.int sel), .val (.long qp), .second, .val (.int qq), .val (.int j), .val (.int k), .unset, .unset, .unset] [(.int k), (.int j), (.int (3 : Int32)), (.long (own_f (2 : Int32) j k qb qx qy)), (.long (own_f (1 : Int32) j k qb qx qy)), (.long (own_f (0 : Int32) j k qb qx qy)), (.ref b3), (.ref b3)])) _
    refine XS.lloadN X9.here hx rfl (hb hby at_73) rfl ?_
    show Steps p.tables e below (T9.setTop (mkF m 74 #[.val (.long qb), .second, .val (.long qx), .second, .val (.long qy), .second, .val (.int sel), .val (.long qp), .second, .val (.int qq), .val (.int j), .val (.int k), .unset, .unset, .unset] [(.long qb), (.int k), (.int j), (.int (3 : Int32)), (.long (own_f (2 : Int32) j k qb qx qy)), (.long (own_f (1 : Int32) j k qb qx qy)), (.long (own_f (0 : Int32) j k qb qx qy)), (.ref b3), (.ref b3)])) _
    refine XS.lloadN X9.here hx rfl (hb hby at_74) rfl ?_
    show Steps p.tables e below (T9.setTop (mkF m 75 #[.val (.long qb), .second, .val (.long qx), .second, .val (.long qy), .second, .val (.int sel), .val (.long qp), .second, .val (.int qq), .val (.int j), .val (.int k), .unset, .unset, .unset] [(.long qx), (.long qb), (.int k), (.int j), (.int (3 : Int32)), (.long (own_f (2 : Int32) j k qb qx qy)), (.long (own_f (1 : Int32) j k qb qx qy)), (.long (own_f (0 : Int32) j k qb qx qy)), (.ref b3), (.ref b3)])) _
    refine XS.lload X9.here hx rfl (hb hby at_75) rfl ?_
    show Steps p.tables e below (T9.setTop (mkF m 77 #[.val (.long qb), .second, .val (.long qx), .second, .val (.long qy), .second, .val (.int sel), .val (.long qp), .second, .val (.int qq), .val (.int j), .val (.int k), .unset, .unset, .unset] [(.long qy), (.long qx), (.long qb), (.int k), (.int j), (.int (3 : Int32)), (.long (own_f (2 : Int32) j k qb qx qy)), (.long (own_f (1 : Int32) j k qb qx qy)), (.long (own_f (0 : Int32) j k qb qx qy)), (.ref b3), (.ref b3)])) _
    exact kt
  obtain ⟨_, _, ⟨T11, L11, k11, n11⟩, -, X11, ⟨Lc11, hQ11, l11, y11, z11⟩, st11⟩ := Jvm.LawKit.callS X9 hx (y := (⟨"com/example/horarium/horarium/engine/CampusScoreHardPinLaw", "f", "(IIIJJJ)J"⟩ : MethodName)) hown (mvT hZ (hw _ (List.mem_of_getElem? (i := 4) rfl))) (mvT hZ (hw _ (List.mem_of_getElem? (i := 5) rfl))) (mvT hZ (hw _ (List.mem_of_getElem? (i := 6) rfl))) (mvT hZ (hw _ (List.mem_of_getElem? (i := 7) rfl))) (by decide) (backOf (W := 8) (rm1 l Z aa hw [] ((3 : Int32)) (j) (k) (qb) (qx) (qy)  h3 n0 Z3 ) hZ (hw _ (List.mem_of_getElem? (i := 7) rfl)) (hw _ (List.mem_of_getElem? (i := 6) rfl)) (by decide) (by decide)) (g := (mkF m 77 #[.val (.long qb), .second, .val (.long qx), .second, .val (.long qy), .second, .val (.int sel), .val (.long qp), .second, .val (.int qq), .val (.int j), .val (.int k), .unset, .unset, .unset] [(.long qy), (.long qx), (.long qb), (.int k), (.int j), (.int (3 : Int32)), (.long (own_f (2 : Int32) j k qb qx qy)), (.long (own_f (1 : Int32) j k qb qx qy)), (.long (own_f (0 : Int32) j k qb qx qy)), (.ref b3), (.ref b3)])) rfl (by rw [hml]; rfl) (argsL := [(.int (3 : Int32)), (.int j), (.int k), (.long qb), (.long qx), (.long qy)]) (rest := [(.long (own_f (2 : Int32) j k qb qx qy)), (.long (own_f (1 : Int32) j k qb qx qy)), (.long (own_f (0 : Int32) j k qb qx qy)), (.ref b3), (.ref b3)]) (lenOf pd_PIIIJJJQJ rfl) rfl (by show 2 * 0 + _ ≤ _; exact Nat.le_of_eq rfl) (hb hby at_77) (fun _ _ => ⟨rfl, e9, (by decide : 1 + 0 ≤ _), (by decide : 12 + 0 ≤ _)⟩)
  dsimp only [Pt.U, Pt.locs, Pt.cells, Pt.slots] at X11 l11 y11 z11 st11 hQ11
  subst l11 y11 z11
  obtain ⟨rfl, N11q, e11⟩ := hQ11
  have N11 := Fr.app N9 N11q
  have K11 : ∀ t, Steps p.tables e below (T11.setTop (mkF m 80 #[.val (.long qb), .second, .val (.long qx), .second, .val (.long qy), .second, .val (.int sel), .val (.long qp), .second, .val (.int qq), .val (.int j), .val (.int k), .unset, .unset, .unset] [(.long (own_f (3 : Int32) j k qb qx qy)), (.long (own_f (2 : Int32) j k qb qx qy)), (.long (own_f (1 : Int32) j k qb qx qy)), (.long (own_f (0 : Int32) j k qb qx qy)), (.ref b3), (.ref b3)])) t → Steps p.tables e below G0 t := fun t kt => K10 t (st11 _ kt)
  have K12 : ∀ t, Steps p.tables e below (T11.setTop (mkF m 89 #[.val (.long qb), .second, .val (.long qx), .second, .val (.long qy), .second, .val (.int sel), .val (.long qp), .second, .val (.int qq), .val (.int j), .val (.int k), .unset, .unset, .unset] [(.long qy), (.long qx), (.long qb), (.int k), (.int j), (.int (4 : Int32)), (.long (own_f (3 : Int32) j k qb qx qy)), (.long (own_f (2 : Int32) j k qb qx qy)), (.long (own_f (1 : Int32) j k qb qx qy)), (.long (own_f (0 : Int32) j k qb qx qy)), (.ref b3), (.ref b3)])) t → Steps p.tables e below G0 t := by
    intro t kt
    refine K11 t ?_
    refine XS.iconst X11.here hx rfl (hb hby at_80) ?_
    show Steps p.tables e below (T11.setTop (mkF m 81 #[.val (.long qb), .second, .val (.long qx), .second, .val (.long qy), .second, .val (.int sel), .val (.long qp), .second, .val (.int qq), .val (.int j), .val (.int k), .unset, .unset, .unset] [(.int (4 : Int32)), (.long (own_f (3 : Int32) j k qb qx qy)), (.long (own_f (2 : Int32) j k qb qx qy)), (.long (own_f (1 : Int32) j k qb qx qy)), (.long (own_f (0 : Int32) j k qb qx qy)), (.ref b3), (.ref b3)])) _
    refine XS.iload X11.here hx rfl (hb hby at_81) rfl ?_
    show Steps p.tables e below (T11.setTop (mkF m 83 #[.val (.long qb), .second, .val (.long qx), .second, .val (.long qy), .second, .val (.int sel), .val (.long qp), .second, .val (.int qq), .val (.int j), .val (.int k), .unset, .unset, .unset] [(.int j), (.int (4 : Int32)), (.long (own_f (3 : Int32) j k qb qx qy)), (.long (own_f (2 : Int32) j k qb qx qy)), (.long (own_f (1 : Int32) j k qb qx qy)), (.long (own_f (0 : Int32) j k qb qx qy)), (.ref b3), (.ref b3)])) _
    refine XS.iload X11.here hx rfl (hb hby at_83) rfl ?_
    show Steps p.tables e below (T11.setTop (mkF m 85 #[.val (.long qb), .second, .val (.long qx), .second, .val (.long qy), .second, .val (.int sel), .val (.long qp), .second, .val (.int qq), .val (.int j), .val (.int k), .unset, .unset, .unset] [(.int k), (.int j), (.int (4 : Int32)), (.long (own_f (3 : Int32) j k qb qx qy)), (.long (own_f (2 : Int32) j k qb qx qy)), (.long (own_f (1 : Int32) j k qb qx qy)), (.long (own_f (0 : Int32) j k qb qx qy)), (.ref b3), (.ref b3)])) _
    refine XS.lloadN X11.here hx rfl (hb hby at_85) rfl ?_
    show Steps p.tables e below (T11.setTop (mkF m 86 #[.val (.long qb), .second, .val (.long qx), .second, .val (.long qy), .second, .val (.int sel), .val (.long qp), .second, .val (.int qq), .val (.int j), .val (.int k), .unset, .unset, .unset] [(.long qb), (.int k), (.int j), (.int (4 : Int32)), (.long (own_f (3 : Int32) j k qb qx qy)), (.long (own_f (2 : Int32) j k qb qx qy)), (.long (own_f (1 : Int32) j k qb qx qy)), (.long (own_f (0 : Int32) j k qb qx qy)), (.ref b3), (.ref b3)])) _
    refine XS.lloadN X11.here hx rfl (hb hby at_86) rfl ?_
    show Steps p.tables e below (T11.setTop (mkF m 87 #[.val (.long qb), .second, .val (.long qx), .second, .val (.long qy), .second, .val (.int sel), .val (.long qp), .second, .val (.int qq), .val (.int j), .val (.int k), .unset, .unset, .unset] [(.long qx), (.long qb), (.int k), (.int j), (.int (4 : Int32)), (.long (own_f (3 : Int32) j k qb qx qy)), (.long (own_f (2 : Int32) j k qb qx qy)), (.long (own_f (1 : Int32) j k qb qx qy)), (.long (own_f (0 : Int32) j k qb qx qy)), (.ref b3), (.ref b3)])) _
    refine XS.lload X11.here hx rfl (hb hby at_87) rfl ?_
    show Steps p.tables e below (T11.setTop (mkF m 89 #[.val (.long qb), .second, .val (.long qx), .second, .val (.long qy), .second, .val (.int sel), .val (.long qp), .second, .val (.int qq), .val (.int j), .val (.int k), .unset, .unset, .unset] [(.long qy), (.long qx), (.long qb), (.int k), (.int j), (.int (4 : Int32)), (.long (own_f (3 : Int32) j k qb qx qy)), (.long (own_f (2 : Int32) j k qb qx qy)), (.long (own_f (1 : Int32) j k qb qx qy)), (.long (own_f (0 : Int32) j k qb qx qy)), (.ref b3), (.ref b3)])) _
    exact kt
  obtain ⟨_, _, ⟨T13, L13, k13, n13⟩, -, X13, ⟨Lc13, hQ13, l13, y13, z13⟩, st13⟩ := Jvm.LawKit.callS X11 hx (y := (⟨"com/example/horarium/horarium/engine/CampusScoreHardPinLaw", "f", "(IIIJJJ)J"⟩ : MethodName)) hown (mvT hZ (hw _ (List.mem_of_getElem? (i := 4) rfl))) (mvT hZ (hw _ (List.mem_of_getElem? (i := 5) rfl))) (mvT hZ (hw _ (List.mem_of_getElem? (i := 6) rfl))) (mvT hZ (hw _ (List.mem_of_getElem? (i := 7) rfl))) (by decide) (backOf (W := 10) (rm1 l Z aa hw [] ((4 : Int32)) (j) (k) (qb) (qx) (qy)  h3 n0 Z3 ) hZ (hw _ (List.mem_of_getElem? (i := 7) rfl)) (hw _ (List.mem_of_getElem? (i := 6) rfl)) (by decide) (by decide)) (g := (mkF m 89 #[.val (.long qb), .second, .val (.long qx), .second, .val (.long qy), .second, .val (.int sel), .val (.long qp), .second, .val (.int qq), .val (.int j), .val (.int k), .unset, .unset, .unset] [(.long qy), (.long qx), (.long qb), (.int k), (.int j), (.int (4 : Int32)), (.long (own_f (3 : Int32) j k qb qx qy)), (.long (own_f (2 : Int32) j k qb qx qy)), (.long (own_f (1 : Int32) j k qb qx qy)), (.long (own_f (0 : Int32) j k qb qx qy)), (.ref b3), (.ref b3)])) rfl (by rw [hml]; rfl) (argsL := [(.int (4 : Int32)), (.int j), (.int k), (.long qb), (.long qx), (.long qy)]) (rest := [(.long (own_f (3 : Int32) j k qb qx qy)), (.long (own_f (2 : Int32) j k qb qx qy)), (.long (own_f (1 : Int32) j k qb qx qy)), (.long (own_f (0 : Int32) j k qb qx qy)), (.ref b3), (.ref b3)]) (lenOf pd_PIIIJJJQJ rfl) rfl (by show 2 * 0 + _ ≤ _; exact Nat.le_of_eq rfl) (hb hby at_89) (fun _ _ => ⟨rfl, e11, (by decide : 1 + 0 ≤ _), (by decide : 12 + 0 ≤ _)⟩)
  dsimp only [Pt.U, Pt.locs, Pt.cells, Pt.slots] at X13 l13 y13 z13 st13 hQ13
  subst l13 y13 z13
  obtain ⟨rfl, N13q, e13⟩ := hQ13
  have N13 := Fr.app N11 N13q
  have K13 : ∀ t, Steps p.tables e below (T13.setTop (mkF m 92 #[.val (.long qb), .second, .val (.long qx), .second, .val (.long qy), .second, .val (.int sel), .val (.long qp), .second, .val (.int qq), .val (.int j), .val (.int k), .unset, .unset, .unset] [(.long (own_f (4 : Int32) j k qb qx qy)), (.long (own_f (3 : Int32) j k qb qx qy)), (.long (own_f (2 : Int32) j k qb qx qy)), (.long (own_f (1 : Int32) j k qb qx qy)), (.long (own_f (0 : Int32) j k qb qx qy)), (.ref b3), (.ref b3)])) t → Steps p.tables e below G0 t := fun t kt => K12 t (st13 _ kt)
  have K14 : ∀ t, Steps p.tables e below (T13.setTop (mkF m 101 #[.val (.long qb), .second, .val (.long qx), .second, .val (.long qy), .second, .val (.int sel), .val (.long qp), .second, .val (.int qq), .val (.int j), .val (.int k), .unset, .unset, .unset] [(.long qy), (.long qx), (.long qb), (.int k), (.int j), (.int (5 : Int32)), (.long (own_f (4 : Int32) j k qb qx qy)), (.long (own_f (3 : Int32) j k qb qx qy)), (.long (own_f (2 : Int32) j k qb qx qy)), (.long (own_f (1 : Int32) j k qb qx qy)), (.long (own_f (0 : Int32) j k qb qx qy)), (.ref b3), (.ref b3)])) t → Steps p.tables e below G0 t := by
    intro t kt
    refine K13 t ?_
    refine XS.iconst X13.here hx rfl (hb hby at_92) ?_
    show Steps p.tables e below (T13.setTop (mkF m 93 #[.val (.long qb), .second, .val (.long qx), .second, .val (.long qy), .second, .val (.int sel), .val (.long qp), .second, .val (.int qq), .val (.int j), .val (.int k), .unset, .unset, .unset] [(.int (5 : Int32)), (.long (own_f (4 : Int32) j k qb qx qy)), (.long (own_f (3 : Int32) j k qb qx qy)), (.long (own_f (2 : Int32) j k qb qx qy)), (.long (own_f (1 : Int32) j k qb qx qy)), (.long (own_f (0 : Int32) j k qb qx qy)), (.ref b3), (.ref b3)])) _
    refine XS.iload X13.here hx rfl (hb hby at_93) rfl ?_
    show Steps p.tables e below (T13.setTop (mkF m 95 #[.val (.long qb), .second, .val (.long qx), .second, .val (.long qy), .second, .val (.int sel), .val (.long qp), .second, .val (.int qq), .val (.int j), .val (.int k), .unset, .unset, .unset] [(.int j), (.int (5 : Int32)), (.long (own_f (4 : Int32) j k qb qx qy)), (.long (own_f (3 : Int32) j k qb qx qy)), (.long (own_f (2 : Int32) j k qb qx qy)), (.long (own_f (1 : Int32) j k qb qx qy)), (.long (own_f (0 : Int32) j k qb qx qy)), (.ref b3), (.ref b3)])) _
    refine XS.iload X13.here hx rfl (hb hby at_95) rfl ?_
    show Steps p.tables e below (T13.setTop (mkF m 97 #[.val (.long qb), .second, .val (.long qx), .second, .val (.long qy), .second, .val (.int sel), .val (.long qp), .second, .val (.int qq), .val (.int j), .val (.int k), .unset, .unset, .unset] [(.int k), (.int j), (.int (5 : Int32)), (.long (own_f (4 : Int32) j k qb qx qy)), (.long (own_f (3 : Int32) j k qb qx qy)), (.long (own_f (2 : Int32) j k qb qx qy)), (.long (own_f (1 : Int32) j k qb qx qy)), (.long (own_f (0 : Int32) j k qb qx qy)), (.ref b3), (.ref b3)])) _
    refine XS.lloadN X13.here hx rfl (hb hby at_97) rfl ?_
    show Steps p.tables e below (T13.setTop (mkF m 98 #[.val (.long qb), .second, .val (.long qx), .second, .val (.long qy), .second, .val (.int sel), .val (.long qp), .second, .val (.int qq), .val (.int j), .val (.int k), .unset, .unset, .unset] [(.long qb), (.int k), (.int j), (.int (5 : Int32)), (.long (own_f (4 : Int32) j k qb qx qy)), (.long (own_f (3 : Int32) j k qb qx qy)), (.long (own_f (2 : Int32) j k qb qx qy)), (.long (own_f (1 : Int32) j k qb qx qy)), (.long (own_f (0 : Int32) j k qb qx qy)), (.ref b3), (.ref b3)])) _
    refine XS.lloadN X13.here hx rfl (hb hby at_98) rfl ?_
    show Steps p.tables e below (T13.setTop (mkF m 99 #[.val (.long qb), .second, .val (.long qx), .second, .val (.long qy), .second, .val (.int sel), .val (.long qp), .second, .val (.int qq), .val (.int j), .val (.int k), .unset, .unset, .unset] [(.long qx), (.long qb), (.int k), (.int j), (.int (5 : Int32)), (.long (own_f (4 : Int32) j k qb qx qy)), (.long (own_f (3 : Int32) j k qb qx qy)), (.long (own_f (2 : Int32) j k qb qx qy)), (.long (own_f (1 : Int32) j k qb qx qy)), (.long (own_f (0 : Int32) j k qb qx qy)), (.ref b3), (.ref b3)])) _
    refine XS.lload X13.here hx rfl (hb hby at_99) rfl ?_
    show Steps p.tables e below (T13.setTop (mkF m 101 #[.val (.long qb), .second, .val (.long qx), .second, .val (.long qy), .second, .val (.int sel), .val (.long qp), .second, .val (.int qq), .val (.int j), .val (.int k), .unset, .unset, .unset] [(.long qy), (.long qx), (.long qb), (.int k), (.int j), (.int (5 : Int32)), (.long (own_f (4 : Int32) j k qb qx qy)), (.long (own_f (3 : Int32) j k qb qx qy)), (.long (own_f (2 : Int32) j k qb qx qy)), (.long (own_f (1 : Int32) j k qb qx qy)), (.long (own_f (0 : Int32) j k qb qx qy)), (.ref b3), (.ref b3)])) _
    exact kt
  obtain ⟨_, _, ⟨T15, L15, k15, n15⟩, -, X15, ⟨Lc15, hQ15, l15, y15, z15⟩, st15⟩ := Jvm.LawKit.callS X13 hx (y := (⟨"com/example/horarium/horarium/engine/CampusScoreHardPinLaw", "f", "(IIIJJJ)J"⟩ : MethodName)) hown (mvT hZ (hw _ (List.mem_of_getElem? (i := 4) rfl))) (mvT hZ (hw _ (List.mem_of_getElem? (i := 5) rfl))) (mvT hZ (hw _ (List.mem_of_getElem? (i := 6) rfl))) (mvT hZ (hw _ (List.mem_of_getElem? (i := 7) rfl))) (by decide) (backOf (W := 12) (rm1 l Z aa hw [] ((5 : Int32)) (j) (k) (qb) (qx) (qy)  h3 n0 Z3 ) hZ (hw _ (List.mem_of_getElem? (i := 7) rfl)) (hw _ (List.mem_of_getElem? (i := 6) rfl)) (by decide) (by decide)) (g := (mkF m 101 #[.val (.long qb), .second, .val (.long qx), .second, .val (.long qy), .second, .val (.int sel), .val (.long qp), .second, .val (.int qq), .val (.int j), .val (.int k), .unset, .unset, .unset] [(.long qy), (.long qx), (.long qb), (.int k), (.int j), (.int (5 : Int32)), (.long (own_f (4 : Int32) j k qb qx qy)), (.long (own_f (3 : Int32) j k qb qx qy)), (.long (own_f (2 : Int32) j k qb qx qy)), (.long (own_f (1 : Int32) j k qb qx qy)), (.long (own_f (0 : Int32) j k qb qx qy)), (.ref b3), (.ref b3)])) rfl (by rw [hml]; rfl) (argsL := [(.int (5 : Int32)), (.int j), (.int k), (.long qb), (.long qx), (.long qy)]) (rest := [(.long (own_f (4 : Int32) j k qb qx qy)), (.long (own_f (3 : Int32) j k qb qx qy)), (.long (own_f (2 : Int32) j k qb qx qy)), (.long (own_f (1 : Int32) j k qb qx qy)), (.long (own_f (0 : Int32) j k qb qx qy)), (.ref b3), (.ref b3)]) (lenOf pd_PIIIJJJQJ rfl) rfl (by show 2 * 0 + _ ≤ _; exact Nat.le_of_eq rfl) (hb hby at_101) (fun _ _ => ⟨rfl, e13, (by decide : 1 + 0 ≤ _), (by decide : 12 + 0 ≤ _)⟩)
  dsimp only [Pt.U, Pt.locs, Pt.cells, Pt.slots] at X15 l15 y15 z15 st15 hQ15
  subst l15 y15 z15
  obtain ⟨rfl, N15q, e15⟩ := hQ15
  have N15 := Fr.app N13 N15q
  have K15 : ∀ t, Steps p.tables e below (T15.setTop (mkF m 104 #[.val (.long qb), .second, .val (.long qx), .second, .val (.long qy), .second, .val (.int sel), .val (.long qp), .second, .val (.int qq), .val (.int j), .val (.int k), .unset, .unset, .unset] [(.long (own_f (5 : Int32) j k qb qx qy)), (.long (own_f (4 : Int32) j k qb qx qy)), (.long (own_f (3 : Int32) j k qb qx qy)), (.long (own_f (2 : Int32) j k qb qx qy)), (.long (own_f (1 : Int32) j k qb qx qy)), (.long (own_f (0 : Int32) j k qb qx qy)), (.ref b3), (.ref b3)])) t → Steps p.tables e below G0 t := fun t kt => K14 t (st15 _ kt)
  have K16 : ∀ t, Steps p.tables e below (T15.setTop (mkF m 114 #[.val (.long qb), .second, .val (.long qx), .second, .val (.long qy), .second, .val (.int sel), .val (.long qp), .second, .val (.int qq), .val (.int j), .val (.int k), .unset, .unset, .unset] [(.long qy), (.long qx), (.long qb), (.int k), (.int j), (.int (6 : Int32)), (.long (own_f (5 : Int32) j k qb qx qy)), (.long (own_f (4 : Int32) j k qb qx qy)), (.long (own_f (3 : Int32) j k qb qx qy)), (.long (own_f (2 : Int32) j k qb qx qy)), (.long (own_f (1 : Int32) j k qb qx qy)), (.long (own_f (0 : Int32) j k qb qx qy)), (.ref b3), (.ref b3)])) t → Steps p.tables e below G0 t := by
    intro t kt
    refine K15 t ?_
    refine XS.bipush X15.here hx rfl (hb hby at_104) ?_
    show Steps p.tables e below (T15.setTop (mkF m 106 #[.val (.long qb), .second, .val (.long qx), .second, .val (.long qy), .second, .val (.int sel), .val (.long qp), .second, .val (.int qq), .val (.int j), .val (.int k), .unset, .unset, .unset] [(.int (6 : Int32)), (.long (own_f (5 : Int32) j k qb qx qy)), (.long (own_f (4 : Int32) j k qb qx qy)), (.long (own_f (3 : Int32) j k qb qx qy)), (.long (own_f (2 : Int32) j k qb qx qy)), (.long (own_f (1 : Int32) j k qb qx qy)), (.long (own_f (0 : Int32) j k qb qx qy)), (.ref b3), (.ref b3)])) _
    refine XS.iload X15.here hx rfl (hb hby at_106) rfl ?_
    show Steps p.tables e below (T15.setTop (mkF m 108 #[.val (.long qb), .second, .val (.long qx), .second, .val (.long qy), .second, .val (.int sel), .val (.long qp), .second, .val (.int qq), .val (.int j), .val (.int k), .unset, .unset, .unset] [(.int j), (.int (6 : Int32)), (.long (own_f (5 : Int32) j k qb qx qy)), (.long (own_f (4 : Int32) j k qb qx qy)), (.long (own_f (3 : Int32) j k qb qx qy)), (.long (own_f (2 : Int32) j k qb qx qy)), (.long (own_f (1 : Int32) j k qb qx qy)), (.long (own_f (0 : Int32) j k qb qx qy)), (.ref b3), (.ref b3)])) _
    refine XS.iload X15.here hx rfl (hb hby at_108) rfl ?_
    show Steps p.tables e below (T15.setTop (mkF m 110 #[.val (.long qb), .second, .val (.long qx), .second, .val (.long qy), .second, .val (.int sel), .val (.long qp), .second, .val (.int qq), .val (.int j), .val (.int k), .unset, .unset, .unset] [(.int k), (.int j), (.int (6 : Int32)), (.long (own_f (5 : Int32) j k qb qx qy)), (.long (own_f (4 : Int32) j k qb qx qy)), (.long (own_f (3 : Int32) j k qb qx qy)), (.long (own_f (2 : Int32) j k qb qx qy)), (.long (own_f (1 : Int32) j k qb qx qy)), (.long (own_f (0 : Int32) j k qb qx qy)), (.ref b3), (.ref b3)])) _
    refine XS.lloadN X15.here hx rfl (hb hby at_110) rfl ?_
    show Steps p.tables e below (T15.setTop (mkF m 111 #[.val (.long qb), .second, .val (.long qx), .second, .val (.long qy), .second, .val (.int sel), .val (.long qp), .second, .val (.int qq), .val (.int j), .val (.int k), .unset, .unset, .unset] [(.long qb), (.int k), (.int j), (.int (6 : Int32)), (.long (own_f (5 : Int32) j k qb qx qy)), (.long (own_f (4 : Int32) j k qb qx qy)), (.long (own_f (3 : Int32) j k qb qx qy)), (.long (own_f (2 : Int32) j k qb qx qy)), (.long (own_f (1 : Int32) j k qb qx qy)), (.long (own_f (0 : Int32) j k qb qx qy)), (.ref b3), (.ref b3)])) _
    refine XS.lloadN X15.here hx rfl (hb hby at_111) rfl ?_
    show Steps p.tables e below (T15.setTop (mkF m 112 #[.val (.long qb), .second, .val (.long qx), .second, .val (.long qy), .second, .val (.int sel), .val (.long qp), .second, .val (.int qq), .val (.int j), .val (.int k), .unset, .unset, .unset] [(.long qx), (.long qb), (.int k), (.int j), (.int (6 : Int32)), (.long (own_f (5 : Int32) j k qb qx qy)), (.long (own_f (4 : Int32) j k qb qx qy)), (.long (own_f (3 : Int32) j k qb qx qy)), (.long (own_f (2 : Int32) j k qb qx qy)), (.long (own_f (1 : Int32) j k qb qx qy)), (.long (own_f (0 : Int32) j k qb qx qy)), (.ref b3), (.ref b3)])) _
    refine XS.lload X15.here hx rfl (hb hby at_112) rfl ?_
    show Steps p.tables e below (T15.setTop (mkF m 114 #[.val (.long qb), .second, .val (.long qx), .second, .val (.long qy), .second, .val (.int sel), .val (.long qp), .second, .val (.int qq), .val (.int j), .val (.int k), .unset, .unset, .unset] [(.long qy), (.long qx), (.long qb), (.int k), (.int j), (.int (6 : Int32)), (.long (own_f (5 : Int32) j k qb qx qy)), (.long (own_f (4 : Int32) j k qb qx qy)), (.long (own_f (3 : Int32) j k qb qx qy)), (.long (own_f (2 : Int32) j k qb qx qy)), (.long (own_f (1 : Int32) j k qb qx qy)), (.long (own_f (0 : Int32) j k qb qx qy)), (.ref b3), (.ref b3)])) _
    exact kt
  obtain ⟨_, _, ⟨T17, L17, k17, n17⟩, -, X17, ⟨Lc17, hQ17, l17, y17, z17⟩, st17⟩ := Jvm.LawKit.callS X15 hx (y := (⟨"com/example/horarium/horarium/engine/CampusScoreHardPinLaw", "f", "(IIIJJJ)J"⟩ : MethodName)) hown (mvT hZ (hw _ (List.mem_of_getElem? (i := 4) rfl))) (mvT hZ (hw _ (List.mem_of_getElem? (i := 5) rfl))) (mvT hZ (hw _ (List.mem_of_getElem? (i := 6) rfl))) (mvT hZ (hw _ (List.mem_of_getElem? (i := 7) rfl))) (by decide) (backOf (W := 14) (rm1 l Z aa hw [] ((6 : Int32)) (j) (k) (qb) (qx) (qy)  h3 n0 Z3 ) hZ (hw _ (List.mem_of_getElem? (i := 7) rfl)) (hw _ (List.mem_of_getElem? (i := 6) rfl)) (by decide) (by decide)) (g := (mkF m 114 #[.val (.long qb), .second, .val (.long qx), .second, .val (.long qy), .second, .val (.int sel), .val (.long qp), .second, .val (.int qq), .val (.int j), .val (.int k), .unset, .unset, .unset] [(.long qy), (.long qx), (.long qb), (.int k), (.int j), (.int (6 : Int32)), (.long (own_f (5 : Int32) j k qb qx qy)), (.long (own_f (4 : Int32) j k qb qx qy)), (.long (own_f (3 : Int32) j k qb qx qy)), (.long (own_f (2 : Int32) j k qb qx qy)), (.long (own_f (1 : Int32) j k qb qx qy)), (.long (own_f (0 : Int32) j k qb qx qy)), (.ref b3), (.ref b3)])) rfl (by rw [hml]; rfl) (argsL := [(.int (6 : Int32)), (.int j), (.int k), (.long qb), (.long qx), (.long qy)]) (rest := [(.long (own_f (5 : Int32) j k qb qx qy)), (.long (own_f (4 : Int32) j k qb qx qy)), (.long (own_f (3 : Int32) j k qb qx qy)), (.long (own_f (2 : Int32) j k qb qx qy)), (.long (own_f (1 : Int32) j k qb qx qy)), (.long (own_f (0 : Int32) j k qb qx qy)), (.ref b3), (.ref b3)]) (lenOf pd_PIIIJJJQJ rfl) rfl (by show 2 * 0 + _ ≤ _; exact Nat.le_of_eq rfl) (hb hby at_114) (fun _ _ => ⟨rfl, e15, (by decide : 1 + 0 ≤ _), (by decide : 12 + 0 ≤ _)⟩)
  dsimp only [Pt.U, Pt.locs, Pt.cells, Pt.slots] at X17 l17 y17 z17 st17 hQ17
  subst l17 y17 z17
  obtain ⟨rfl, N17q, e17⟩ := hQ17
  have N17 := Fr.app N15 N17q
  have K17 : ∀ t, Steps p.tables e below (T17.setTop (mkF m 117 #[.val (.long qb), .second, .val (.long qx), .second, .val (.long qy), .second, .val (.int sel), .val (.long qp), .second, .val (.int qq), .val (.int j), .val (.int k), .unset, .unset, .unset] [(.long (own_f (6 : Int32) j k qb qx qy)), (.long (own_f (5 : Int32) j k qb qx qy)), (.long (own_f (4 : Int32) j k qb qx qy)), (.long (own_f (3 : Int32) j k qb qx qy)), (.long (own_f (2 : Int32) j k qb qx qy)), (.long (own_f (1 : Int32) j k qb qx qy)), (.long (own_f (0 : Int32) j k qb qx qy)), (.ref b3), (.ref b3)])) t → Steps p.tables e below G0 t := fun t kt => K16 t (st17 _ kt)
  have K18 : ∀ t, Steps p.tables e below (T17.setTop (mkF m 127 #[.val (.long qb), .second, .val (.long qx), .second, .val (.long qy), .second, .val (.int sel), .val (.long qp), .second, .val (.int qq), .val (.int j), .val (.int k), .unset, .unset, .unset] [(.long qy), (.long qx), (.long qb), (.int k), (.int j), (.int (7 : Int32)), (.long (own_f (6 : Int32) j k qb qx qy)), (.long (own_f (5 : Int32) j k qb qx qy)), (.long (own_f (4 : Int32) j k qb qx qy)), (.long (own_f (3 : Int32) j k qb qx qy)), (.long (own_f (2 : Int32) j k qb qx qy)), (.long (own_f (1 : Int32) j k qb qx qy)), (.long (own_f (0 : Int32) j k qb qx qy)), (.ref b3), (.ref b3)])) t → Steps p.tables e below G0 t := by
    intro t kt
    refine K17 t ?_
    refine XS.bipush X17.here hx rfl (hb hby at_117) ?_
    show Steps p.tables e below (T17.setTop (mkF m 119 #[.val (.long qb), .second, .val (.long qx), .second, .val (.long qy), .second, .val (.int sel), .val (.long qp), .second, .val (.int qq), .val (.int j), .val (.int k), .unset, .unset, .unset] [(.int (7 : Int32)), (.long (own_f (6 : Int32) j k qb qx qy)), (.long (own_f (5 : Int32) j k qb qx qy)), (.long (own_f (4 : Int32) j k qb qx qy)), (.long (own_f (3 : Int32) j k qb qx qy)), (.long (own_f (2 : Int32) j k qb qx qy)), (.long (own_f (1 : Int32) j k qb qx qy)), (.long (own_f (0 : Int32) j k qb qx qy)), (.ref b3), (.ref b3)])) _
    refine XS.iload X17.here hx rfl (hb hby at_119) rfl ?_
    show Steps p.tables e below (T17.setTop (mkF m 121 #[.val (.long qb), .second, .val (.long qx), .second, .val (.long qy), .second, .val (.int sel), .val (.long qp), .second, .val (.int qq), .val (.int j), .val (.int k), .unset, .unset, .unset] [(.int j), (.int (7 : Int32)), (.long (own_f (6 : Int32) j k qb qx qy)), (.long (own_f (5 : Int32) j k qb qx qy)), (.long (own_f (4 : Int32) j k qb qx qy)), (.long (own_f (3 : Int32) j k qb qx qy)), (.long (own_f (2 : Int32) j k qb qx qy)), (.long (own_f (1 : Int32) j k qb qx qy)), (.long (own_f (0 : Int32) j k qb qx qy)), (.ref b3), (.ref b3)])) _
    refine XS.iload X17.here hx rfl (hb hby at_121) rfl ?_
    show Steps p.tables e below (T17.setTop (mkF m 123 #[.val (.long qb), .second, .val (.long qx), .second, .val (.long qy), .second, .val (.int sel), .val (.long qp), .second, .val (.int qq), .val (.int j), .val (.int k), .unset, .unset, .unset] [(.int k), (.int j), (.int (7 : Int32)), (.long (own_f (6 : Int32) j k qb qx qy)), (.long (own_f (5 : Int32) j k qb qx qy)), (.long (own_f (4 : Int32) j k qb qx qy)), (.long (own_f (3 : Int32) j k qb qx qy)), (.long (own_f (2 : Int32) j k qb qx qy)), (.long (own_f (1 : Int32) j k qb qx qy)), (.long (own_f (0 : Int32) j k qb qx qy)), (.ref b3), (.ref b3)])) _
    refine XS.lloadN X17.here hx rfl (hb hby at_123) rfl ?_
    show Steps p.tables e below (T17.setTop (mkF m 124 #[.val (.long qb), .second, .val (.long qx), .second, .val (.long qy), .second, .val (.int sel), .val (.long qp), .second, .val (.int qq), .val (.int j), .val (.int k), .unset, .unset, .unset] [(.long qb), (.int k), (.int j), (.int (7 : Int32)), (.long (own_f (6 : Int32) j k qb qx qy)), (.long (own_f (5 : Int32) j k qb qx qy)), (.long (own_f (4 : Int32) j k qb qx qy)), (.long (own_f (3 : Int32) j k qb qx qy)), (.long (own_f (2 : Int32) j k qb qx qy)), (.long (own_f (1 : Int32) j k qb qx qy)), (.long (own_f (0 : Int32) j k qb qx qy)), (.ref b3), (.ref b3)])) _
    refine XS.lloadN X17.here hx rfl (hb hby at_124) rfl ?_
    show Steps p.tables e below (T17.setTop (mkF m 125 #[.val (.long qb), .second, .val (.long qx), .second, .val (.long qy), .second, .val (.int sel), .val (.long qp), .second, .val (.int qq), .val (.int j), .val (.int k), .unset, .unset, .unset] [(.long qx), (.long qb), (.int k), (.int j), (.int (7 : Int32)), (.long (own_f (6 : Int32) j k qb qx qy)), (.long (own_f (5 : Int32) j k qb qx qy)), (.long (own_f (4 : Int32) j k qb qx qy)), (.long (own_f (3 : Int32) j k qb qx qy)), (.long (own_f (2 : Int32) j k qb qx qy)), (.long (own_f (1 : Int32) j k qb qx qy)), (.long (own_f (0 : Int32) j k qb qx qy)), (.ref b3), (.ref b3)])) _
    refine XS.lload X17.here hx rfl (hb hby at_125) rfl ?_
    show Steps p.tables e below (T17.setTop (mkF m 127 #[.val (.long qb), .second, .val (.long qx), .second, .val (.long qy), .second, .val (.int sel), .val (.long qp), .second, .val (.int qq), .val (.int j), .val (.int k), .unset, .unset, .unset] [(.long qy), (.long qx), (.long qb), (.int k), (.int j), (.int (7 : Int32)), (.long (own_f (6 : Int32) j k qb qx qy)), (.long (own_f (5 : Int32) j k qb qx qy)), (.long (own_f (4 : Int32) j k qb qx qy)), (.long (own_f (3 : Int32) j k qb qx qy)), (.long (own_f (2 : Int32) j k qb qx qy)), (.long (own_f (1 : Int32) j k qb qx qy)), (.long (own_f (0 : Int32) j k qb qx qy)), (.ref b3), (.ref b3)])) _
    exact kt
  obtain ⟨_, _, ⟨T19, L19, k19, n19⟩, -, X19, ⟨Lc19, hQ19, l19, y19, z19⟩, st19⟩ := Jvm.LawKit.callS X17 hx (y := (⟨"com/example/horarium/horarium/engine/CampusScoreHardPinLaw", "f", "(IIIJJJ)J"⟩ : MethodName)) hown (mvT hZ (hw _ (List.mem_of_getElem? (i := 4) rfl))) (mvT hZ (hw _ (List.mem_of_getElem? (i := 5) rfl))) (mvT hZ (hw _ (List.mem_of_getElem? (i := 6) rfl))) (mvT hZ (hw _ (List.mem_of_getElem? (i := 7) rfl))) (by decide) (backOf (W := 16) (rm1 l Z aa hw [] ((7 : Int32)) (j) (k) (qb) (qx) (qy)  h3 n0 Z3 ) hZ (hw _ (List.mem_of_getElem? (i := 7) rfl)) (hw _ (List.mem_of_getElem? (i := 6) rfl)) (by decide) (by decide)) (g := (mkF m 127 #[.val (.long qb), .second, .val (.long qx), .second, .val (.long qy), .second, .val (.int sel), .val (.long qp), .second, .val (.int qq), .val (.int j), .val (.int k), .unset, .unset, .unset] [(.long qy), (.long qx), (.long qb), (.int k), (.int j), (.int (7 : Int32)), (.long (own_f (6 : Int32) j k qb qx qy)), (.long (own_f (5 : Int32) j k qb qx qy)), (.long (own_f (4 : Int32) j k qb qx qy)), (.long (own_f (3 : Int32) j k qb qx qy)), (.long (own_f (2 : Int32) j k qb qx qy)), (.long (own_f (1 : Int32) j k qb qx qy)), (.long (own_f (0 : Int32) j k qb qx qy)), (.ref b3), (.ref b3)])) rfl (by rw [hml]; rfl) (argsL := [(.int (7 : Int32)), (.int j), (.int k), (.long qb), (.long qx), (.long qy)]) (rest := [(.long (own_f (6 : Int32) j k qb qx qy)), (.long (own_f (5 : Int32) j k qb qx qy)), (.long (own_f (4 : Int32) j k qb qx qy)), (.long (own_f (3 : Int32) j k qb qx qy)), (.long (own_f (2 : Int32) j k qb qx qy)), (.long (own_f (1 : Int32) j k qb qx qy)), (.long (own_f (0 : Int32) j k qb qx qy)), (.ref b3), (.ref b3)]) (lenOf pd_PIIIJJJQJ rfl) rfl (by show 2 * 0 + _ ≤ _; exact Nat.le_of_eq rfl) (hb hby at_127) (fun _ _ => ⟨rfl, e17, (by decide : 1 + 0 ≤ _), (by decide : 12 + 0 ≤ _)⟩)
  dsimp only [Pt.U, Pt.locs, Pt.cells, Pt.slots] at X19 l19 y19 z19 st19 hQ19
  subst l19 y19 z19
  obtain ⟨rfl, N19q, e19⟩ := hQ19
  have N19 := Fr.app N17 N19q
  have K19 : ∀ t, Steps p.tables e below (T19.setTop (mkF m 130 #[.val (.long qb), .second, .val (.long qx), .second, .val (.long qy), .second, .val (.int sel), .val (.long qp), .second, .val (.int qq), .val (.int j), .val (.int k), .unset, .unset, .unset] [(.long (own_f (7 : Int32) j k qb qx qy)), (.long (own_f (6 : Int32) j k qb qx qy)), (.long (own_f (5 : Int32) j k qb qx qy)), (.long (own_f (4 : Int32) j k qb qx qy)), (.long (own_f (3 : Int32) j k qb qx qy)), (.long (own_f (2 : Int32) j k qb qx qy)), (.long (own_f (1 : Int32) j k qb qx qy)), (.long (own_f (0 : Int32) j k qb qx qy)), (.ref b3), (.ref b3)])) t → Steps p.tables e below G0 t := fun t kt => K18 t (st19 _ kt)
  have K20 : ∀ t, Steps p.tables e below (T19.setTop (mkF m 140 #[.val (.long qb), .second, .val (.long qx), .second, .val (.long qy), .second, .val (.int sel), .val (.long qp), .second, .val (.int qq), .val (.int j), .val (.int k), .unset, .unset, .unset] [(.long qy), (.long qx), (.long qb), (.int k), (.int j), (.int (8 : Int32)), (.long (own_f (7 : Int32) j k qb qx qy)), (.long (own_f (6 : Int32) j k qb qx qy)), (.long (own_f (5 : Int32) j k qb qx qy)), (.long (own_f (4 : Int32) j k qb qx qy)), (.long (own_f (3 : Int32) j k qb qx qy)), (.long (own_f (2 : Int32) j k qb qx qy)), (.long (own_f (1 : Int32) j k qb qx qy)), (.long (own_f (0 : Int32) j k qb qx qy)), (.ref b3), (.ref b3)])) t → Steps p.tables e below G0 t := by
    intro t kt
    refine K19 t ?_
    refine XS.bipush X19.here hx rfl (hb hby at_130) ?_
    show Steps p.tables e below (T19.setTop (mkF m 132 #[.val (.long qb), .second, .val (.long qx), .second, .val (.long qy), .second, .val (.int sel), .val (.long qp), .second, .val (.int qq), .val (.int j), .val (.int k), .unset, .unset, .unset] [(.int (8 : Int32)), (.long (own_f (7 : Int32) j k qb qx qy)), (.long (own_f (6 : Int32) j k qb qx qy)), (.long (own_f (5 : Int32) j k qb qx qy)), (.long (own_f (4 : Int32) j k qb qx qy)), (.long (own_f (3 : Int32) j k qb qx qy)), (.long (own_f (2 : Int32) j k qb qx qy)), (.long (own_f (1 : Int32) j k qb qx qy)), (.long (own_f (0 : Int32) j k qb qx qy)), (.ref b3), (.ref b3)])) _
    refine XS.iload X19.here hx rfl (hb hby at_132) rfl ?_
    show Steps p.tables e below (T19.setTop (mkF m 134 #[.val (.long qb), .second, .val (.long qx), .second, .val (.long qy), .second, .val (.int sel), .val (.long qp), .second, .val (.int qq), .val (.int j), .val (.int k), .unset, .unset, .unset] [(.int j), (.int (8 : Int32)), (.long (own_f (7 : Int32) j k qb qx qy)), (.long (own_f (6 : Int32) j k qb qx qy)), (.long (own_f (5 : Int32) j k qb qx qy)), (.long (own_f (4 : Int32) j k qb qx qy)), (.long (own_f (3 : Int32) j k qb qx qy)), (.long (own_f (2 : Int32) j k qb qx qy)), (.long (own_f (1 : Int32) j k qb qx qy)), (.long (own_f (0 : Int32) j k qb qx qy)), (.ref b3), (.ref b3)])) _
    refine XS.iload X19.here hx rfl (hb hby at_134) rfl ?_
    show Steps p.tables e below (T19.setTop (mkF m 136 #[.val (.long qb), .second, .val (.long qx), .second, .val (.long qy), .second, .val (.int sel), .val (.long qp), .second, .val (.int qq), .val (.int j), .val (.int k), .unset, .unset, .unset] [(.int k), (.int j), (.int (8 : Int32)), (.long (own_f (7 : Int32) j k qb qx qy)), (.long (own_f (6 : Int32) j k qb qx qy)), (.long (own_f (5 : Int32) j k qb qx qy)), (.long (own_f (4 : Int32) j k qb qx qy)), (.long (own_f (3 : Int32) j k qb qx qy)), (.long (own_f (2 : Int32) j k qb qx qy)), (.long (own_f (1 : Int32) j k qb qx qy)), (.long (own_f (0 : Int32) j k qb qx qy)), (.ref b3), (.ref b3)])) _
    refine XS.lloadN X19.here hx rfl (hb hby at_136) rfl ?_
    show Steps p.tables e below (T19.setTop (mkF m 137 #[.val (.long qb), .second, .val (.long qx), .second, .val (.long qy), .second, .val (.int sel), .val (.long qp), .second, .val (.int qq), .val (.int j), .val (.int k), .unset, .unset, .unset] [(.long qb), (.int k), (.int j), (.int (8 : Int32)), (.long (own_f (7 : Int32) j k qb qx qy)), (.long (own_f (6 : Int32) j k qb qx qy)), (.long (own_f (5 : Int32) j k qb qx qy)), (.long (own_f (4 : Int32) j k qb qx qy)), (.long (own_f (3 : Int32) j k qb qx qy)), (.long (own_f (2 : Int32) j k qb qx qy)), (.long (own_f (1 : Int32) j k qb qx qy)), (.long (own_f (0 : Int32) j k qb qx qy)), (.ref b3), (.ref b3)])) _
    refine XS.lloadN X19.here hx rfl (hb hby at_137) rfl ?_
    show Steps p.tables e below (T19.setTop (mkF m 138 #[.val (.long qb), .second, .val (.long qx), .second, .val (.long qy), .second, .val (.int sel), .val (.long qp), .second, .val (.int qq), .val (.int j), .val (.int k), .unset, .unset, .unset] [(.long qx), (.long qb), (.int k), (.int j), (.int (8 : Int32)), (.long (own_f (7 : Int32) j k qb qx qy)), (.long (own_f (6 : Int32) j k qb qx qy)), (.long (own_f (5 : Int32) j k qb qx qy)), (.long (own_f (4 : Int32) j k qb qx qy)), (.long (own_f (3 : Int32) j k qb qx qy)), (.long (own_f (2 : Int32) j k qb qx qy)), (.long (own_f (1 : Int32) j k qb qx qy)), (.long (own_f (0 : Int32) j k qb qx qy)), (.ref b3), (.ref b3)])) _
    refine XS.lload X19.here hx rfl (hb hby at_138) rfl ?_
    show Steps p.tables e below (T19.setTop (mkF m 140 #[.val (.long qb), .second, .val (.long qx), .second, .val (.long qy), .second, .val (.int sel), .val (.long qp), .second, .val (.int qq), .val (.int j), .val (.int k), .unset, .unset, .unset] [(.long qy), (.long qx), (.long qb), (.int k), (.int j), (.int (8 : Int32)), (.long (own_f (7 : Int32) j k qb qx qy)), (.long (own_f (6 : Int32) j k qb qx qy)), (.long (own_f (5 : Int32) j k qb qx qy)), (.long (own_f (4 : Int32) j k qb qx qy)), (.long (own_f (3 : Int32) j k qb qx qy)), (.long (own_f (2 : Int32) j k qb qx qy)), (.long (own_f (1 : Int32) j k qb qx qy)), (.long (own_f (0 : Int32) j k qb qx qy)), (.ref b3), (.ref b3)])) _
    exact kt
  obtain ⟨_, _, ⟨T21, L21, k21, n21⟩, -, X21, ⟨Lc21, hQ21, l21, y21, z21⟩, st21⟩ := Jvm.LawKit.callS X19 hx (y := (⟨"com/example/horarium/horarium/engine/CampusScoreHardPinLaw", "f", "(IIIJJJ)J"⟩ : MethodName)) hown (mvT hZ (hw _ (List.mem_of_getElem? (i := 4) rfl))) (mvT hZ (hw _ (List.mem_of_getElem? (i := 5) rfl))) (mvT hZ (hw _ (List.mem_of_getElem? (i := 6) rfl))) (mvT hZ (hw _ (List.mem_of_getElem? (i := 7) rfl))) (by decide) (backOf (W := 18) (rm1 l Z aa hw [] ((8 : Int32)) (j) (k) (qb) (qx) (qy)  h3 n0 Z3 ) hZ (hw _ (List.mem_of_getElem? (i := 7) rfl)) (hw _ (List.mem_of_getElem? (i := 6) rfl)) (by decide) (by decide)) (g := (mkF m 140 #[.val (.long qb), .second, .val (.long qx), .second, .val (.long qy), .second, .val (.int sel), .val (.long qp), .second, .val (.int qq), .val (.int j), .val (.int k), .unset, .unset, .unset] [(.long qy), (.long qx), (.long qb), (.int k), (.int j), (.int (8 : Int32)), (.long (own_f (7 : Int32) j k qb qx qy)), (.long (own_f (6 : Int32) j k qb qx qy)), (.long (own_f (5 : Int32) j k qb qx qy)), (.long (own_f (4 : Int32) j k qb qx qy)), (.long (own_f (3 : Int32) j k qb qx qy)), (.long (own_f (2 : Int32) j k qb qx qy)), (.long (own_f (1 : Int32) j k qb qx qy)), (.long (own_f (0 : Int32) j k qb qx qy)), (.ref b3), (.ref b3)])) rfl (by rw [hml]; rfl) (argsL := [(.int (8 : Int32)), (.int j), (.int k), (.long qb), (.long qx), (.long qy)]) (rest := [(.long (own_f (7 : Int32) j k qb qx qy)), (.long (own_f (6 : Int32) j k qb qx qy)), (.long (own_f (5 : Int32) j k qb qx qy)), (.long (own_f (4 : Int32) j k qb qx qy)), (.long (own_f (3 : Int32) j k qb qx qy)), (.long (own_f (2 : Int32) j k qb qx qy)), (.long (own_f (1 : Int32) j k qb qx qy)), (.long (own_f (0 : Int32) j k qb qx qy)), (.ref b3), (.ref b3)]) (lenOf pd_PIIIJJJQJ rfl) rfl (by show 2 * 0 + _ ≤ _; exact Nat.le_of_eq rfl) (hb hby at_140) (fun _ _ => ⟨rfl, e19, (by decide : 1 + 0 ≤ _), (by decide : 12 + 0 ≤ _)⟩)
  dsimp only [Pt.U, Pt.locs, Pt.cells, Pt.slots] at X21 l21 y21 z21 st21 hQ21
  subst l21 y21 z21
  obtain ⟨rfl, N21q, e21⟩ := hQ21
  have N21 := Fr.app N19 N21q
  have K21 : ∀ t, Steps p.tables e below (T21.setTop (mkF m 143 #[.val (.long qb), .second, .val (.long qx), .second, .val (.long qy), .second, .val (.int sel), .val (.long qp), .second, .val (.int qq), .val (.int j), .val (.int k), .unset, .unset, .unset] [(.long (own_f (8 : Int32) j k qb qx qy)), (.long (own_f (7 : Int32) j k qb qx qy)), (.long (own_f (6 : Int32) j k qb qx qy)), (.long (own_f (5 : Int32) j k qb qx qy)), (.long (own_f (4 : Int32) j k qb qx qy)), (.long (own_f (3 : Int32) j k qb qx qy)), (.long (own_f (2 : Int32) j k qb qx qy)), (.long (own_f (1 : Int32) j k qb qx qy)), (.long (own_f (0 : Int32) j k qb qx qy)), (.ref b3), (.ref b3)])) t → Steps p.tables e below G0 t := fun t kt => K20 t (st21 _ kt)
  have K23 : ∀ t, Steps p.tables e below (T21.setTop (mkF m 155 #[.val (.long qb), .second, .val (.long qx), .second, .val (.long qy), .second, .val (.int sel), .val (.long qp), .second, .val (.int qq), .val (.int j), .val (.int k), .unset, .unset, .unset] [(.double (FP.i2d (qq &&& (255 : Int32)))), (.long (qq.toInt64)), (.long qp), (.long (own_f (8 : Int32) j k qb qx qy)), (.long (own_f (7 : Int32) j k qb qx qy)), (.long (own_f (6 : Int32) j k qb qx qy)), (.long (own_f (5 : Int32) j k qb qx qy)), (.long (own_f (4 : Int32) j k qb qx qy)), (.long (own_f (3 : Int32) j k qb qx qy)), (.long (own_f (2 : Int32) j k qb qx qy)), (.long (own_f (1 : Int32) j k qb qx qy)), (.long (own_f (0 : Int32) j k qb qx qy)), (.ref b3), (.ref b3)])) t → Steps p.tables e below G0 t := by
    intro t kt
    refine K21 t ?_
    refine XS.lload X21.here hx rfl (hb hby at_143) rfl ?_
    show Steps p.tables e below (T21.setTop (mkF m 145 #[.val (.long qb), .second, .val (.long qx), .second, .val (.long qy), .second, .val (.int sel), .val (.long qp), .second, .val (.int qq), .val (.int j), .val (.int k), .unset, .unset, .unset] [(.long qp), (.long (own_f (8 : Int32) j k qb qx qy)), (.long (own_f (7 : Int32) j k qb qx qy)), (.long (own_f (6 : Int32) j k qb qx qy)), (.long (own_f (5 : Int32) j k qb qx qy)), (.long (own_f (4 : Int32) j k qb qx qy)), (.long (own_f (3 : Int32) j k qb qx qy)), (.long (own_f (2 : Int32) j k qb qx qy)), (.long (own_f (1 : Int32) j k qb qx qy)), (.long (own_f (0 : Int32) j k qb qx qy)), (.ref b3), (.ref b3)])) _
    refine XS.iload X21.here hx rfl (hb hby at_145) rfl ?_
    show Steps p.tables e below (T21.setTop (mkF m 147 #[.val (.long qb), .second, .val (.long qx), .second, .val (.long qy), .second, .val (.int sel), .val (.long qp), .second, .val (.int qq), .val (.int j), .val (.int k), .unset, .unset, .unset] [(.int qq), (.long qp), (.long (own_f (8 : Int32) j k qb qx qy)), (.long (own_f (7 : Int32) j k qb qx qy)), (.long (own_f (6 : Int32) j k qb qx qy)), (.long (own_f (5 : Int32) j k qb qx qy)), (.long (own_f (4 : Int32) j k qb qx qy)), (.long (own_f (3 : Int32) j k qb qx qy)), (.long (own_f (2 : Int32) j k qb qx qy)), (.long (own_f (1 : Int32) j k qb qx qy)), (.long (own_f (0 : Int32) j k qb qx qy)), (.ref b3), (.ref b3)])) _
    refine XS.i2l X21.here hx rfl (hb hby at_147) rfl ?_
    show Steps p.tables e below (T21.setTop (mkF m 148 #[.val (.long qb), .second, .val (.long qx), .second, .val (.long qy), .second, .val (.int sel), .val (.long qp), .second, .val (.int qq), .val (.int j), .val (.int k), .unset, .unset, .unset] [(.long (qq.toInt64)), (.long qp), (.long (own_f (8 : Int32) j k qb qx qy)), (.long (own_f (7 : Int32) j k qb qx qy)), (.long (own_f (6 : Int32) j k qb qx qy)), (.long (own_f (5 : Int32) j k qb qx qy)), (.long (own_f (4 : Int32) j k qb qx qy)), (.long (own_f (3 : Int32) j k qb qx qy)), (.long (own_f (2 : Int32) j k qb qx qy)), (.long (own_f (1 : Int32) j k qb qx qy)), (.long (own_f (0 : Int32) j k qb qx qy)), (.ref b3), (.ref b3)])) _
    refine XS.iload X21.here hx rfl (hb hby at_148) rfl ?_
    show Steps p.tables e below (T21.setTop (mkF m 150 #[.val (.long qb), .second, .val (.long qx), .second, .val (.long qy), .second, .val (.int sel), .val (.long qp), .second, .val (.int qq), .val (.int j), .val (.int k), .unset, .unset, .unset] [(.int qq), (.long (qq.toInt64)), (.long qp), (.long (own_f (8 : Int32) j k qb qx qy)), (.long (own_f (7 : Int32) j k qb qx qy)), (.long (own_f (6 : Int32) j k qb qx qy)), (.long (own_f (5 : Int32) j k qb qx qy)), (.long (own_f (4 : Int32) j k qb qx qy)), (.long (own_f (3 : Int32) j k qb qx qy)), (.long (own_f (2 : Int32) j k qb qx qy)), (.long (own_f (1 : Int32) j k qb qx qy)), (.long (own_f (0 : Int32) j k qb qx qy)), (.ref b3), (.ref b3)])) _
    refine XS.sipush X21.here hx rfl (hb hby at_150) ?_
    show Steps p.tables e below (T21.setTop (mkF m 153 #[.val (.long qb), .second, .val (.long qx), .second, .val (.long qy), .second, .val (.int sel), .val (.long qp), .second, .val (.int qq), .val (.int j), .val (.int k), .unset, .unset, .unset] [(.int (255 : Int32)), (.int qq), (.long (qq.toInt64)), (.long qp), (.long (own_f (8 : Int32) j k qb qx qy)), (.long (own_f (7 : Int32) j k qb qx qy)), (.long (own_f (6 : Int32) j k qb qx qy)), (.long (own_f (5 : Int32) j k qb qx qy)), (.long (own_f (4 : Int32) j k qb qx qy)), (.long (own_f (3 : Int32) j k qb qx qy)), (.long (own_f (2 : Int32) j k qb qx qy)), (.long (own_f (1 : Int32) j k qb qx qy)), (.long (own_f (0 : Int32) j k qb qx qy)), (.ref b3), (.ref b3)])) _
    refine XS.iand X21.here hx rfl (hb hby at_153) rfl ?_
    show Steps p.tables e below (T21.setTop (mkF m 154 #[.val (.long qb), .second, .val (.long qx), .second, .val (.long qy), .second, .val (.int sel), .val (.long qp), .second, .val (.int qq), .val (.int j), .val (.int k), .unset, .unset, .unset] [(.int (qq &&& (255 : Int32))), (.long (qq.toInt64)), (.long qp), (.long (own_f (8 : Int32) j k qb qx qy)), (.long (own_f (7 : Int32) j k qb qx qy)), (.long (own_f (6 : Int32) j k qb qx qy)), (.long (own_f (5 : Int32) j k qb qx qy)), (.long (own_f (4 : Int32) j k qb qx qy)), (.long (own_f (3 : Int32) j k qb qx qy)), (.long (own_f (2 : Int32) j k qb qx qy)), (.long (own_f (1 : Int32) j k qb qx qy)), (.long (own_f (0 : Int32) j k qb qx qy)), (.ref b3), (.ref b3)])) _
    refine XS.i2dS X21.here hx rfl (hb hby at_154) rfl rfl ?_
    show Steps p.tables e below (T21.setTop (mkF m 155 #[.val (.long qb), .second, .val (.long qx), .second, .val (.long qy), .second, .val (.int sel), .val (.long qp), .second, .val (.int qq), .val (.int j), .val (.int k), .unset, .unset, .unset] [(.double (FP.i2d (qq &&& (255 : Int32)))), (.long (qq.toInt64)), (.long qp), (.long (own_f (8 : Int32) j k qb qx qy)), (.long (own_f (7 : Int32) j k qb qx qy)), (.long (own_f (6 : Int32) j k qb qx qy)), (.long (own_f (5 : Int32) j k qb qx qy)), (.long (own_f (4 : Int32) j k qb qx qy)), (.long (own_f (3 : Int32) j k qb qx qy)), (.long (own_f (2 : Int32) j k qb qx qy)), (.long (own_f (1 : Int32) j k qb qx qy)), (.long (own_f (0 : Int32) j k qb qx qy)), (.ref b3), (.ref b3)])) _
    exact kt
  obtain ⟨_, _, ⟨T24, L24, k24, n24⟩, -, X24, ⟨Lc24, hQ24, l24, y24, z24⟩, st24⟩ := X21.specialBack hx (y := (⟨"com/example/horarium/horarium/engine/CampusScore", "<init>", "(JJJJJJJJJJJD)V"⟩ : MethodName)) rfl hown (mvT hZ (hw _ (List.mem_of_getElem? (i := 8) rfl))) (mvT hZ (hw _ (List.mem_of_getElem? (i := 9) rfl))) (mvT hZ (hw _ (List.mem_of_getElem? (i := 10) rfl))) (by decide) (backOf (W := 1) (rm2 l Z aa hw [] (b3) ((own_f (0 : Int32) j k qb qx qy)) ((own_f (1 : Int32) j k qb qx qy)) ((own_f (2 : Int32) j k qb qx qy)) ((own_f (3 : Int32) j k qb qx qy)) ((own_f (4 : Int32) j k qb qx qy)) ((own_f (5 : Int32) j k qb qx qy)) ((own_f (6 : Int32) j k qb qx qy)) ((own_f (7 : Int32) j k qb qx qy)) ((own_f (8 : Int32) j k qb qx qy)) (qp) ((qq.toInt64)) ((FP.i2d (qq &&& (255 : Int32)))) _ _ _ _ _ _ _ _ _ _ _ _ h3 n0 Z3 gn3 A3 F_lessons_b3 F_roomClashes_b3 F_teacherClashes_b3 F_curriculumClashes_b3 F_unavailable_b3 F_unqualified_b3 F_splitTeacher_b3 F_wrongRoom_b3 F_wrongShift_b3 F_placed_b3 F_preferred_b3 F_loadStddev_b3) hZ (hw _ (List.mem_of_getElem? (i := 10) rfl)) (hw _ (List.mem_of_getElem? (i := 3) rfl)) (by decide) (by decide)) (g := (mkF m 155 #[.val (.long qb), .second, .val (.long qx), .second, .val (.long qy), .second, .val (.int sel), .val (.long qp), .second, .val (.int qq), .val (.int j), .val (.int k), .unset, .unset, .unset] [(.double (FP.i2d (qq &&& (255 : Int32)))), (.long (qq.toInt64)), (.long qp), (.long (own_f (8 : Int32) j k qb qx qy)), (.long (own_f (7 : Int32) j k qb qx qy)), (.long (own_f (6 : Int32) j k qb qx qy)), (.long (own_f (5 : Int32) j k qb qx qy)), (.long (own_f (4 : Int32) j k qb qx qy)), (.long (own_f (3 : Int32) j k qb qx qy)), (.long (own_f (2 : Int32) j k qb qx qy)), (.long (own_f (1 : Int32) j k qb qx qy)), (.long (own_f (0 : Int32) j k qb qx qy)), (.ref b3), (.ref b3)])) rfl (by rw [hml]; rfl) (Steps.refl _) (a := b3) (argsL := [(.long (own_f (0 : Int32) j k qb qx qy)), (.long (own_f (1 : Int32) j k qb qx qy)), (.long (own_f (2 : Int32) j k qb qx qy)), (.long (own_f (3 : Int32) j k qb qx qy)), (.long (own_f (4 : Int32) j k qb qx qy)), (.long (own_f (5 : Int32) j k qb qx qy)), (.long (own_f (6 : Int32) j k qb qx qy)), (.long (own_f (7 : Int32) j k qb qx qy)), (.long (own_f (8 : Int32) j k qb qx qy)), (.long qp), (.long (qq.toInt64)), (.double (FP.i2d (qq &&& (255 : Int32))))]) (rest := [(.ref b3)]) (lenOf pd_PJJJJJJJJJJJDQV rfl) rfl (by show 2 * 0 + _ ≤ _; exact Nat.le_of_eq rfl) (hb hby at_155) (fun _ _ => ⟨rfl, e21, (by decide : 1 + 0 ≤ _), (by decide : 12 + 0 ≤ _)⟩)
  dsimp only [Pt.U, Pt.locs, Pt.cells, Pt.slots] at X24 l24 y24 z24 st24 hQ24
  subst l24 y24 z24
  obtain ⟨rfl, N24q, KK22, EE22, Fc0_22, Fc1_22, Fc2_22, Fc3_22, Fc4_22, Fc5_22, Fc6_22, Fc7_22, Fc8_22, Fc9_22, Fc10_22, Fc11_22⟩ := hQ24
  have N24 := Fr.app N21 N24q
  have K24 : ∀ t, Steps p.tables e below (T24.setTop (mkF m 158 #[.val (.long qb), .second, .val (.long qx), .second, .val (.long qy), .second, .val (.int sel), .val (.long qp), .second, .val (.int qq), .val (.int j), .val (.int k), .unset, .unset, .unset] [(.ref b3)])) t → Steps p.tables e below G0 t := fun t kt => K23 t (st24.trans kt)
  have ZZ22 : n0 ≤ T24.heap.size := Nat.le_trans Z3 KK22.1
  have K25 : ∀ t, Steps p.tables e below (T24.setTop (mkF m 174 #[.val (.long qb), .second, .val (.long qx), .second, .val (.long qy), .second, .val (.int sel), .val (.long qp), .second, .val (.int qq), .val (.int j), .val (.int k), .val (.ref b3), .val (.long ((((9 : Int64) * qb) + qx) + qy)), .second] [(.ref b3)])) t → Steps p.tables e below G0 t := by
    intro t kt
    refine K24 t ?_
    refine XS.astore X24.here hx rfl (hb hby at_158) rfl rfl (l' := #[.val (.long qb), .second, .val (.long qx), .second, .val (.long qy), .second, .val (.int sel), .val (.long qp), .second, .val (.int qq), .val (.int j), .val (.int k), .val (.ref b3), .unset, .unset]) rfl ?_
    show Steps p.tables e below (T24.setTop (mkF m 160 #[.val (.long qb), .second, .val (.long qx), .second, .val (.long qy), .second, .val (.int sel), .val (.long qp), .second, .val (.int qq), .val (.int j), .val (.int k), .val (.ref b3), .unset, .unset] [])) _
    refine X24.ldc2Long hx hown (mvT hZ (hw _ (List.mem_of_getElem? (i := 43) rfl))) (g := (mkF m 160 #[.val (.long qb), .second, .val (.long qx), .second, .val (.long qy), .second, .val (.int sel), .val (.long qp), .second, .val (.int qq), .val (.int j), .val (.int k), .val (.ref b3), .unset, .unset] [])) rfl (hb hby at_160) _ ?_
    show Steps p.tables e below (T24.setTop (mkF m 163 #[.val (.long qb), .second, .val (.long qx), .second, .val (.long qy), .second, .val (.int sel), .val (.long qp), .second, .val (.int qq), .val (.int j), .val (.int k), .val (.ref b3), .unset, .unset] [(.long (9 : Int64))])) _
    refine XS.lloadN X24.here hx rfl (hb hby at_163) rfl ?_
    show Steps p.tables e below (T24.setTop (mkF m 164 #[.val (.long qb), .second, .val (.long qx), .second, .val (.long qy), .second, .val (.int sel), .val (.long qp), .second, .val (.int qq), .val (.int j), .val (.int k), .val (.ref b3), .unset, .unset] [(.long qb), (.long (9 : Int64))])) _
    refine XS.lmul X24.here hx rfl (hb hby at_164) rfl ?_
    show Steps p.tables e below (T24.setTop (mkF m 165 #[.val (.long qb), .second, .val (.long qx), .second, .val (.long qy), .second, .val (.int sel), .val (.long qp), .second, .val (.int qq), .val (.int j), .val (.int k), .val (.ref b3), .unset, .unset] [(.long ((9 : Int64) * qb))])) _
    refine XS.lloadN X24.here hx rfl (hb hby at_165) rfl ?_
    show Steps p.tables e below (T24.setTop (mkF m 166 #[.val (.long qb), .second, .val (.long qx), .second, .val (.long qy), .second, .val (.int sel), .val (.long qp), .second, .val (.int qq), .val (.int j), .val (.int k), .val (.ref b3), .unset, .unset] [(.long qx), (.long ((9 : Int64) * qb))])) _
    refine XS.ladd X24.here hx rfl (hb hby at_166) rfl ?_
    show Steps p.tables e below (T24.setTop (mkF m 167 #[.val (.long qb), .second, .val (.long qx), .second, .val (.long qy), .second, .val (.int sel), .val (.long qp), .second, .val (.int qq), .val (.int j), .val (.int k), .val (.ref b3), .unset, .unset] [(.long (((9 : Int64) * qb) + qx))])) _
    refine XS.lload X24.here hx rfl (hb hby at_167) rfl ?_
    show Steps p.tables e below (T24.setTop (mkF m 169 #[.val (.long qb), .second, .val (.long qx), .second, .val (.long qy), .second, .val (.int sel), .val (.long qp), .second, .val (.int qq), .val (.int j), .val (.int k), .val (.ref b3), .unset, .unset] [(.long qy), (.long (((9 : Int64) * qb) + qx))])) _
    refine XS.ladd X24.here hx rfl (hb hby at_169) rfl ?_
    show Steps p.tables e below (T24.setTop (mkF m 170 #[.val (.long qb), .second, .val (.long qx), .second, .val (.long qy), .second, .val (.int sel), .val (.long qp), .second, .val (.int qq), .val (.int j), .val (.int k), .val (.ref b3), .unset, .unset] [(.long ((((9 : Int64) * qb) + qx) + qy))])) _
    refine XS.lstore X24.here hx rfl (hb hby at_170) rfl (l' := #[.val (.long qb), .second, .val (.long qx), .second, .val (.long qy), .second, .val (.int sel), .val (.long qp), .second, .val (.int qq), .val (.int j), .val (.int k), .val (.ref b3), .val (.long ((((9 : Int64) * qb) + qx) + qy)), .second]) rfl ?_
    show Steps p.tables e below (T24.setTop (mkF m 172 #[.val (.long qb), .second, .val (.long qx), .second, .val (.long qy), .second, .val (.int sel), .val (.long qp), .second, .val (.int qq), .val (.int j), .val (.int k), .val (.ref b3), .val (.long ((((9 : Int64) * qb) + qx) + qy)), .second] [])) _
    refine XS.aload X24.here hx rfl (hb hby at_172) rfl rfl ?_
    show Steps p.tables e below (T24.setTop (mkF m 174 #[.val (.long qb), .second, .val (.long qx), .second, .val (.long qy), .second, .val (.int sel), .val (.long qp), .second, .val (.int qq), .val (.int j), .val (.int k), .val (.ref b3), .val (.long ((((9 : Int64) * qb) + qx) + qy)), .second] [(.ref b3)])) _
    exact kt
  obtain ⟨cq26, kq26, q26a, q26b, q26c⟩ := isOf hZ (rfl : T24.heap = _) EE22
  obtain ⟨_, _, ⟨T27, L27, k27, n27⟩, -, X27, ⟨Lc27, hQ27, l27, y27, z27⟩, st27⟩ := X24.virtualBack hx (y := (⟨"com/example/horarium/horarium/engine/CampusScore", "hard", "()J"⟩ : MethodName)) (z := (⟨"com/example/horarium/horarium/engine/CampusScore", "hard", "()J"⟩ : MethodName)) hown (mvT hZ (hw _ (List.mem_of_getElem? (i := 44) rfl))) (mvT hZ (hw _ (List.mem_of_getElem? (i := 45) rfl))) (notFace_of_selects (args := #[]) (mvT hZ (hw _ (List.mem_of_getElem? (i := 47) rfl)))) (mvT hZ (hw _ (List.mem_of_getElem? (i := 47) rfl))) (mvT hZ (hw _ (List.mem_of_getElem? (i := 46) rfl))) (by decide) (backOf (W := 0) (rm5 l Z aa hw [] (b3) (own_f (0 : Int32) j k qb qx qy) (own_f (1 : Int32) j k qb qx qy) (own_f (2 : Int32) j k qb qx qy) (own_f (3 : Int32) j k qb qx qy) (own_f (4 : Int32) j k qb qx qy) (own_f (5 : Int32) j k qb qx qy) (own_f (6 : Int32) j k qb qx qy) (own_f (7 : Int32) j k qb qx qy) (own_f (8 : Int32) j k qb qx qy) T24.heap n0 ZZ22 Fc0_22 Fc1_22 Fc2_22 Fc3_22 Fc4_22 Fc5_22 Fc6_22 Fc7_22 Fc8_22) hZ (hw _ (List.mem_of_getElem? (i := 48) rfl)) (hw _ (List.mem_of_getElem? (i := 3) rfl)) (by decide) (by decide)) q26a q26c (g := (mkF m 174 #[.val (.long qb), .second, .val (.long qx), .second, .val (.long qy), .second, .val (.int sel), .val (.long qp), .second, .val (.int qq), .val (.int j), .val (.int k), .val (.ref b3), .val (.long ((((9 : Int64) * qb) + qx) + qy)), .second] [(.ref b3)])) rfl (by rw [hml]; rfl) (Steps.refl _) (argsL := []) (rest := []) (lenOf pd_PQJ rfl) rfl (by show 2 * 0 + _ ≤ _; exact Nat.le_of_eq rfl) (hb hby at_174) (fun _ _ => ⟨rfl, (rfl : T24.heap = _), (by decide : 1 + 0 ≤ _), (by decide : 12 + 0 ≤ _)⟩)
  dsimp only [Pt.U, Pt.locs, Pt.cells, Pt.slots] at X27 l27 y27 z27 st27 hQ27
  subst l27 y27 z27
  obtain ⟨rfl, N27q, e27⟩ := hQ27
  have N27 := Fr.app N24 N27q
  have K27 : ∀ t, Steps p.tables e below (T27.setTop (mkF m 177 #[.val (.long qb), .second, .val (.long qx), .second, .val (.long qy), .second, .val (.int sel), .val (.long qp), .second, .val (.int qq), .val (.int j), .val (.int k), .val (.ref b3), .val (.long ((((9 : Int64) * qb) + qx) + qy)), .second] [(.long (own_f (0 : Int32) j k qb qx qy + own_f (1 : Int32) j k qb qx qy + own_f (2 : Int32) j k qb qx qy + own_f (3 : Int32) j k qb qx qy + own_f (4 : Int32) j k qb qx qy + own_f (5 : Int32) j k qb qx qy + own_f (6 : Int32) j k qb qx qy + own_f (7 : Int32) j k qb qx qy + own_f (8 : Int32) j k qb qx qy))])) t → Steps p.tables e below G0 t := fun t kt => K25 t (st27.trans kt)
  have K28 : ∀ t, Steps p.tables e below (T27.setTop (mkF m 188 #[.val (.long qb), .second, .val (.long qx), .second, .val (.long qy), .second, .val (.int sel), .val (.long qp), .second, .val (.int qq), .val (.int j), .val (.int k), .val (.ref b3), .val (.long ((((9 : Int64) * qb) + qx) + qy)), .second] [(.int (1 : Int32))])) t → Steps p.tables e below G0 t := by
    intro t kt
    refine K27 t ?_
    refine XS.lload X27.here hx rfl (hb hby at_177) rfl ?_
    show Steps p.tables e below (T27.setTop (mkF m 179 #[.val (.long qb), .second, .val (.long qx), .second, .val (.long qy), .second, .val (.int sel), .val (.long qp), .second, .val (.int qq), .val (.int j), .val (.int k), .val (.ref b3), .val (.long ((((9 : Int64) * qb) + qx) + qy)), .second] [(.long ((((9 : Int64) * qb) + qx) + qy)), (.long (own_f (0 : Int32) j k qb qx qy + own_f (1 : Int32) j k qb qx qy + own_f (2 : Int32) j k qb qx qy + own_f (3 : Int32) j k qb qx qy + own_f (4 : Int32) j k qb qx qy + own_f (5 : Int32) j k qb qx qy + own_f (6 : Int32) j k qb qx qy + own_f (7 : Int32) j k qb qx qy + own_f (8 : Int32) j k qb qx qy))])) _
    refine XS.lcmp X27.here hx rfl (hb hby at_179) rfl ?_
    show Steps p.tables e below (T27.setTop (mkF m 180 #[.val (.long qb), .second, .val (.long qx), .second, .val (.long qy), .second, .val (.int sel), .val (.long qp), .second, .val (.int qq), .val (.int j), .val (.int k), .val (.ref b3), .val (.long ((((9 : Int64) * qb) + qx) + qy)), .second] [(.int (lcmpW (own_f (0 : Int32) j k qb qx qy + own_f (1 : Int32) j k qb qx qy + own_f (2 : Int32) j k qb qx qy + own_f (3 : Int32) j k qb qx qy + own_f (4 : Int32) j k qb qx qy + own_f (5 : Int32) j k qb qx qy + own_f (6 : Int32) j k qb qx qy + own_f (7 : Int32) j k qb qx qy + own_f (8 : Int32) j k qb qx qy) ((((9 : Int64) * qb) + qx) + qy)))])) _
    refine XS.ifNo X27.here hx rfl (hb hby at_180) rfl ((if0 _ _).trans (teq ((lw_eq _ _).mpr (own_main j k qb qx qy hj.1 hj.2 hk.1 hk.2))).2) ?_
    show Steps p.tables e below (T27.setTop (mkF m 183 #[.val (.long qb), .second, .val (.long qx), .second, .val (.long qy), .second, .val (.int sel), .val (.long qp), .second, .val (.int qq), .val (.int j), .val (.int k), .val (.ref b3), .val (.long ((((9 : Int64) * qb) + qx) + qy)), .second] [])) _
    refine XS.iconst X27.here hx rfl (hb hby at_183) ?_
    show Steps p.tables e below (T27.setTop (mkF m 184 #[.val (.long qb), .second, .val (.long qx), .second, .val (.long qy), .second, .val (.int sel), .val (.long qp), .second, .val (.int qq), .val (.int j), .val (.int k), .val (.ref b3), .val (.long ((((9 : Int64) * qb) + qx) + qy)), .second] [(.int (1 : Int32))])) _
    refine XS.goto X27.here hx rfl (pc0 := 184) (pc' := 188) rfl (hb hby at_184) (by decide) (by decide) ?_
    show Steps p.tables e below (T27.setTop (mkF m 188 #[.val (.long qb), .second, .val (.long qx), .second, .val (.long qy), .second, .val (.int sel), .val (.long qp), .second, .val (.int qq), .val (.int j), .val (.int k), .val (.ref b3), .val (.long ((((9 : Int64) * qb) + qx) + qy)), .second] [(.int (1 : Int32))])) _
    exact kt
  obtain ⟨fs, hr, hrun, hended, hW, hsame⟩ := X27.leave (v := some (.int (1 : Int32))) (fun h => by rw [Bd.returns] at h; cases h)
  refine ⟨_, _, ?_, hrun, hended, _, _, rfl, ?_, ⟨_, rfl⟩, hW, hsame.mono (by decide) (by decide)⟩
  · rw [← hG0]
    refine K28 _ ?_
    exact retN X27 hx (t := .boolean) Bd.returns (by simp) (hb hby at_188) hr
  · show Q0 Z qb qx qy sel qp qq h0 n0 _ T27.heap _
    rw [e27]
    exact ⟨rfl, N27⟩
set_option maxRecDepth 65536 in
set_option maxHeartbeats 40000000 in
theorem comes_1 {Post : Tables → Env → Array Value → State → Outcome → State → Prop} (hpost : ∀ tb e args s v u, (limb_1_1.after args s (.returned v) u = true ∧ limb_1_2.after args s (.returned v) u = true ∧ True) → FrameEnd s (.returned v) u (Jvm.fieldLocs frame_1_writes args s ++ Jvm.arrayLocs frame_1_arrays args s ++ Jvm.staticLocs frame_1_statics s) 16 128 → Post tb e args s (.returned v) u) :
    ArmFor flags0 classFile x code maxLocals ret World_1 tables_1 room_1 Calls_1 rest_1 Pre_1 Post := by
  intro l hfl _ _ p e ha hc hk s m args below hf hA hF happ hP
  obtain ⟨hcalls, hrest, hpre⟩ := hP
  obtain ⟨-, -, -, hnamed, -, -, -, hat⟩ := (Spec.applies_iff hf).mp happ
  obtain ⟨hg, hn⟩ := and_e (Cond.before_iff.mp (show (Jvm.Cond.and given_1 narrow_1).before args s = true from hpre))
  obtain ⟨g1, g2⟩ := and_e hg
  obtain ⟨g3, g4⟩ := and_e g2
  obtain ⟨g5, g6⟩ := and_e g4
  obtain ⟨g7, g8⟩ := and_e g6
  obtain ⟨g9, g10⟩ := and_e g8
  obtain ⟨g11, g12⟩ := and_e g10
  obtain ⟨w0, w1, w2, w3, w4, w5, rfl⟩ : ∃ w0 w1 w2 w3 w4 w5 : Value, args = #[w0, w1, w2, w3, w4, w5] := by
    have hs : args.size = 6 := by simpa [Cond.value, given_1] using g1
    obtain ⟨L⟩ := args
    match L, hs with
    | [w0, w1, w2, w3, w4, w5], _ => exact ⟨w0, w1, w2, w3, w4, w5, rfl⟩
  have hw := fun d (hd : d ∈ tables_1) => atoms_spec (ws := Jvm.Cond.code x code maxLocals ret :: tables_1) hat d (List.mem_cons_of_mem _ hd)
  have hfit : Fit s := fun {y c} hc i hi => by
    obtain ⟨ha, rfl⟩ := Array.getElem?_eq_some_iff.mp hc
    have q := List.all_eq_true.mp ((Array.all_eq_true_iff_forall_mem.mp hF) _ (Array.getElem_mem ha)) i (List.mem_range.mpr hi)
    simpa [Array.getElem?_eq_getElem hi] using q
  obtain ⟨i0, ei0⟩ := isL_v g3
  obtain rfl : w0 = (.long i0) := Option.some.inj ei0
  obtain ⟨i1, ei1⟩ := isL_v g5
  obtain rfl : w1 = (.long i1) := Option.some.inj ei1
  obtain ⟨i2, ei2⟩ := isL_v g7
  obtain rfl : w2 = (.long i2) := Option.some.inj ei2
  obtain ⟨i3, ei3⟩ := is_v g9
  obtain rfl : w3 = (.int i3) := Option.some.inj ei3
  obtain ⟨i4, ei4⟩ := isL_v g11
  obtain rfl : w4 = (.long i4) := Option.some.inj ei4
  obtain ⟨i5, ei5⟩ := is_v g12
  obtain rfl : w5 = (.int i5) := Option.some.inj ei5
  obtain ⟨n, o, h1, h2, h3, _, L, rfl, ⟨rfl, N⟩, hq⟩ := rm0 l s _ hw tables_1 i0 i1 i2 i3 i4 i5  s.heap s.heap.size (Nat.le_refl _)  p e ha hc hk s m _ below hf ((Spec.applies_iff_loose hf).mp happ).1 ⟨rfl, State.Warmed39.refl s, rfl⟩ trivial
  refine ⟨n, _, h1, h2, h3, hpost _ _ _ _ _ _ ⟨Cond.after_iff.mpr rfl, Cond.after_iff.mpr (eq_i res_at (Term.int_eval (1)) rfl), trivial⟩ ⟨hq.1, hq.2.1, (hq.2.2.sift fun y hy => Or.inr (N y hy)).mono (by decide) (by decide)⟩⟩
theorem main_1_1 : Claimed_1_1 := comes_1 fun _ _ _ _ _ _ h hF => ⟨h.1, hF⟩
theorem main_1_2 : Claimed_1_2 := comes_1 fun _ _ _ _ _ _ h hF => ⟨h.2.1, hF⟩
end Jvm.Pilot.@@N@@
namespace Jvm.Pilot.@@N@@
open Jvm Jvm.ClassFile Sem Op Lib Jvm.Free Jvm.Stand Jvm.Pilot.@@N@@.Jvm.D
/-! MADE BY PROGRAM (witnessworld.py) out of the Statement's table words and the real class files: 10 classes; the members and pool entries that the words name. The judged class is class 1, her method 2. -/
namespace start1
open Jvm.ClassFile
def u (s : String) : CpInfo := .utf8 (stringToUtf16 s)
/-- a pool by its gaps: so many unusable entries, then the entry; so many at the end -/
def gap : Nat → List CpInfo → List CpInfo
  | 0, r => r
  | n + 1, r => .unusable :: gap n r
def poolList (es : List (Nat × CpInfo)) (last : Nat) : List CpInfo := es.foldr (fun e r => gap e.1 (e.2 :: r)) (gap last [])
def pool (es : List (Nat × CpInfo)) (last : Nat) : Array CpInfo := ⟨poolList es last⟩
def fileOf (pool : Array CpInfo) (this : Nat) (attrs : Array Attribute := #[]) (ms : Array MethodInfo := #[]) (fl : Nat := 33) (sup : Nat := 0) (ifs : Array Nat := #[]) (fds : Array FieldInfo := #[]) : ClassFile where
  minorVersion := 0
  majorVersion := 65
  constantPool := pool
  accessFlags := fl
  thisClass := this
  superClass := sup
  interfaces := ifs
  fields := fds
  methods := ms
  attributes := attrs
def plain (name : String) (sup : Option ClassId) : Class where
  name := name
  kind := .ordinary
  loader := none
  accessFlags := 33
  super := sup
  interfaces := #[]
  cf := none
  fields := #[]
  methods := #[]
  instanceTypes := #[]
  staticTypes := #[]
  resolved := #[]
  callSites := []
  init := .initialized
  statics := none
  mirror := none

def pool0 : Array CpInfo := pool [(5, u "<init>"), (0, u "()V"), (1, .class_ 10), (1, u "java/lang/Object")] 113

def k0c0 : Code := { maxStack := 0, maxLocals := 1, code := object_method_1_code, exceptionTable := #[], attributes := #[] }
def k0m0 : Method := { name := "<init>", desc := "()V", sig := { parameters := [], returnType := none }, accessFlags := 1, code := some k0c0 }
/-- java/lang/Object -/
def k0 : Class := { plain "java/lang/Object" none with
  accessFlags := 33
  interfaces := #[]
  cf := some (fileOf pool0 8 #[] #[{ accessFlags := 1, nameIndex := 5, descriptorIndex := 6, attributes := #[] }] 33 0 #[] #[])
  fields := #[]
  methods := #[k0m0]
  instanceTypes := #[]
  staticTypes := #[]
  resolved := Array.replicate 124 none
  statics := none }

def pool1 : Array CpInfo := pool [(2, .class_ 4), (1, u "java/lang/Object"), (0, u "<init>"), (0, u "()V"), (0, .integer 2147483647), (0, .class_ 9), (0, u "com/example/horarium/horarium/engine/CampusScore"), (0, .methodref 11 12), (0, .class_ 13), (0, .nameAndType 14 15), (0, u "com/example/horarium/horarium/engine/CampusScoreHardPinLaw"), (0, u "f"), (0, u "(IIIJJJ)J"), (0, .methodref 8 17), (0, .nameAndType 5 18), (0, u "(JJJJJJJJJJJD)V"), (0, .long 9), (1, .methodref 8 22), (0, .nameAndType 23 24), (0, u "hard"), (0, u "()J"), (3, u "law"), (0, u "(JJJIJI)Z")] 2

def k1m0 : Method := { name := "<init>", desc := "()V", sig := { parameters := [], returnType := none }, accessFlags := 1, code := none }
def k1c1 : Code := { maxStack := 4, maxLocals := 11, code := method_2_code, exceptionTable := #[], attributes := #[] }
def k1m1 : Method := { name := "f", desc := "(IIIJJJ)J", sig := { parameters := [.int, .int, .int, .long, .long, .long], returnType := some .long }, accessFlags := 10, code := some k1c1 }
def k1c2 : Code := { maxStack := 27, maxLocals := 15, code := code, exceptionTable := #[], attributes := #[] }
def k1m2 : Method := { name := "law", desc := "(JJJIJI)Z", sig := { parameters := [.long, .long, .long, .int, .long, .int], returnType := some .boolean }, accessFlags := 9, code := some k1c2 }
/-- com/example/horarium/horarium/engine/CampusScoreHardPinLaw -/
def k1 : Class := { plain "com/example/horarium/horarium/engine/CampusScoreHardPinLaw" (some 0) with
  accessFlags := 49
  interfaces := #[]
  cf := some (fileOf pool1 11 #[] #[{ accessFlags := 1, nameIndex := 5, descriptorIndex := 6, attributes := #[] }, { accessFlags := 10, nameIndex := 14, descriptorIndex := 15, attributes := #[] }, { accessFlags := 9, nameIndex := 28, descriptorIndex := 29, attributes := #[] }] 49 2 #[] #[])
  fields := #[]
  methods := #[k1m0, k1m1, k1m2]
  instanceTypes := #[]
  staticTypes := #[]
  resolved := Array.replicate 32 none
  statics := none }

def pool2 : Array CpInfo := pool [(1, .methodref 2 3), (0, .class_ 4), (0, .nameAndType 5 6), (0, u "java/lang/Object"), (0, u "<init>"), (0, u "()V"), (0, .class_ 8), (0, u "java/lang/Record")] 13

def k2c0 : Code := { maxStack := 1, maxLocals := 1, code := jdk_30_method_1_code, exceptionTable := #[], attributes := #[] }
def k2m0 : Method := { name := "<init>", desc := "()V", sig := { parameters := [], returnType := none }, accessFlags := 4, code := some k2c0 }
/-- java/lang/Record -/
def k2 : Class := { plain "java/lang/Record" (some 0) with
  accessFlags := 1057
  interfaces := #[]
  cf := some (fileOf pool2 7 #[] #[{ accessFlags := 4, nameIndex := 5, descriptorIndex := 6, attributes := #[] }] 1057 2 #[] #[])
  fields := #[]
  methods := #[k2m0]
  instanceTypes := #[]
  staticTypes := #[]
  resolved := Array.replicate 22 none
  statics := none }

def pool3 : Array CpInfo := pool [(1, .methodref 2 3), (0, .class_ 4), (0, .nameAndType 5 6), (0, u "java/lang/Record"), (0, u "<init>"), (0, u "()V"), (0, .fieldref 8 9), (0, .class_ 10), (0, .nameAndType 11 12), (0, u "com/example/horarium/horarium/engine/CampusScore"), (0, u "lessons"), (0, u "J"), (0, .fieldref 8 14), (0, .nameAndType 15 12), (0, u "roomClashes"), (0, .fieldref 8 17), (0, .nameAndType 18 12), (0, u "teacherClashes"), (0, .fieldref 8 20), (0, .nameAndType 21 12), (0, u "curriculumClashes"), (0, .fieldref 8 23), (0, .nameAndType 24 12), (0, u "unavailable"), (0, .fieldref 8 26), (0, .nameAndType 27 12), (0, u "unqualified"), (0, .fieldref 8 29), (0, .nameAndType 30 12), (0, u "splitTeacher"), (0, .fieldref 8 32), (0, .nameAndType 33 12), (0, u "wrongRoom"), (0, .fieldref 8 35), (0, .nameAndType 36 12), (0, u "wrongShift"), (0, .fieldref 8 38), (0, .nameAndType 39 12), (0, u "placed"), (0, .fieldref 8 41), (0, .nameAndType 42 12), (0, u "preferred"), (0, .fieldref 8 44), (0, .nameAndType 45 46), (0, u "loadStddev"), (0, u "D"), (77, .class_ 125), (0, u "com/example/horarium/horarium/engine/CampusScore$Term"), (66, .class_ 193), (0, u "com/example/horarium/horarium/engine/CampusScore$Taught"), (73, u "(JJJJJJJJJJJD)V"), (27, u "()J"), (39, u "hard")] 83

def k3c0 : Code := { maxStack := 3, maxLocals := 25, code := prog_45_method_1_code, exceptionTable := #[], attributes := #[] }
def k3m0 : Method := { name := "<init>", desc := "(JJJJJJJJJJJD)V", sig := { parameters := [.long, .long, .long, .long, .long, .long, .long, .long, .long, .long, .long, .double], returnType := none }, accessFlags := 1, code := some k3c0 }
def k3c1 : Code := { maxStack := 4, maxLocals := 1, code := prog_45_method_2_code, exceptionTable := #[], attributes := #[] }
def k3m1 : Method := { name := "hard", desc := "()J", sig := { parameters := [], returnType := some .long }, accessFlags := 1, code := some k3c1 }
/-- com/example/horarium/horarium/engine/CampusScore -/
def k3 : Class := { plain "com/example/horarium/horarium/engine/CampusScore" (some 2) with
  accessFlags := 49
  interfaces := #[]
  cf := some (fileOf pool3 8 #[.nestMembers #[192, 124]] #[{ accessFlags := 1, nameIndex := 5, descriptorIndex := 267, attributes := #[] }, { accessFlags := 1, nameIndex := 335, descriptorIndex := 295, attributes := #[] }] 49 2 #[] #[{ accessFlags := 18, nameIndex := 11, descriptorIndex := 12, attributes := #[] }, { accessFlags := 18, nameIndex := 15, descriptorIndex := 12, attributes := #[] }, { accessFlags := 18, nameIndex := 18, descriptorIndex := 12, attributes := #[] }, { accessFlags := 18, nameIndex := 21, descriptorIndex := 12, attributes := #[] }, { accessFlags := 18, nameIndex := 24, descriptorIndex := 12, attributes := #[] }, { accessFlags := 18, nameIndex := 27, descriptorIndex := 12, attributes := #[] }, { accessFlags := 18, nameIndex := 30, descriptorIndex := 12, attributes := #[] }, { accessFlags := 18, nameIndex := 33, descriptorIndex := 12, attributes := #[] }, { accessFlags := 18, nameIndex := 36, descriptorIndex := 12, attributes := #[] }, { accessFlags := 18, nameIndex := 39, descriptorIndex := 12, attributes := #[] }, { accessFlags := 18, nameIndex := 42, descriptorIndex := 12, attributes := #[] }, { accessFlags := 18, nameIndex := 45, descriptorIndex := 46, attributes := #[] }])
  fields := #[{ name := "lessons", type := .long, accessFlags := 18, slot := 0, constantValue := 0 }, { name := "roomClashes", type := .long, accessFlags := 18, slot := 1, constantValue := 0 }, { name := "teacherClashes", type := .long, accessFlags := 18, slot := 2, constantValue := 0 }, { name := "curriculumClashes", type := .long, accessFlags := 18, slot := 3, constantValue := 0 }, { name := "unavailable", type := .long, accessFlags := 18, slot := 4, constantValue := 0 }, { name := "unqualified", type := .long, accessFlags := 18, slot := 5, constantValue := 0 }, { name := "splitTeacher", type := .long, accessFlags := 18, slot := 6, constantValue := 0 }, { name := "wrongRoom", type := .long, accessFlags := 18, slot := 7, constantValue := 0 }, { name := "wrongShift", type := .long, accessFlags := 18, slot := 8, constantValue := 0 }, { name := "placed", type := .long, accessFlags := 18, slot := 9, constantValue := 0 }, { name := "preferred", type := .long, accessFlags := 18, slot := 10, constantValue := 0 }, { name := "loadStddev", type := .double, accessFlags := 18, slot := 11, constantValue := 0 }]
  methods := #[k3m0, k3m1]
  instanceTypes := #[.long, .long, .long, .long, .long, .long, .long, .long, .long, .long, .long, .double]
  staticTypes := #[]
  resolved := Array.replicate 419 none
  statics := none }

def pool4 : Array CpInfo := pool [(1, u "java/lang/Cloneable"), (0, .class_ 1), (0, u "java/lang/Object"), (0, .class_ 3)] 3

/-- java/lang/Cloneable -/
def k4 : Class := { plain "java/lang/Cloneable" (some 0) with
  accessFlags := 1537
  interfaces := #[]
  cf := some (fileOf pool4 2 #[] #[] 1537 4 #[] #[])
  fields := #[]
  methods := #[]
  instanceTypes := #[]
  staticTypes := #[]
  resolved := Array.replicate 8 none
  statics := none }

def pool5 : Array CpInfo := pool [(1, u "java/io/Serializable"), (0, .class_ 1), (0, u "java/lang/Object"), (0, .class_ 3)] 3

/-- java/io/Serializable -/
def k5 : Class := { plain "java/io/Serializable" (some 0) with
  accessFlags := 1537
  interfaces := #[]
  cf := some (fileOf pool5 2 #[] #[] 1537 4 #[] #[])
  fields := #[]
  methods := #[]
  instanceTypes := #[]
  staticTypes := #[]
  resolved := Array.replicate 8 none
  statics := none }

/-- the primitive byte -/
def k6 : Class := { plain "byte" none with kind := .primitive 'B', accessFlags := 0x411 }
/-- [B -/
def k7 : Class := { plain "[B" (some 0) with kind := .array 6 .byte, interfaces := #[4, 5], accessFlags := 1041 }

/-- the primitive int -/
def k8 : Class := { plain "int" none with kind := .primitive 'I', accessFlags := 0x411 }
/-- [I -/
def k9 : Class := { plain "[I" (some 0) with kind := .array 8 .int, interfaces := #[4, 5], accessFlags := 1041 }

def heap : Heap := #[]
def classes : Array Class := #[k0, k1, k2, k3, k4, k5, k6, k7, k8, k9]
def interned : List (Array UInt16 × Addr) := []
def slotsUsed : Nat := 0
def theMethod : MethodId := ⟨1, 2⟩
def args0 : Array Value := #[.long 9, .long 7, .long 7, .int 7, .long 7, .int 7]
def aboutOver (below : List Frame) : State where
  vm := { classes := classes, interned := interned.toArray }
  heap := heap
  slotsUsed := slotsUsed
  threads := #[{ frames := .invoking theMethod args0 :: below }]
def below0 : List Frame := [.native { method := ⟨0, 0⟩, args := #[] }]
def about1 : State := aboutOver below0
def p0 : Program := .bare "" "" ""
def e0 : Env := launch0.env 0 0 0
theorem w_frames : about1.frames = Frame.invoking theMethod args0 :: below0 := rfl
set_option maxRecDepth 65536 in
theorem w_args : argsFit about1.vm theMethod args0 = true := by decide +kernel
set_option maxRecDepth 65536 in
theorem w_heap : heapFits about1 = true := by decide +kernel
set_option maxRecDepth 65536 in
theorem w_runnable : about1.curStatus? = some .runnable := by decide +kernel
set_option maxRecDepth 65536 in
theorem w_alone : about1.alone = true := by decide +kernel
set_option maxRecDepth 65536 in
theorem w_named : about1.methodNamed? x = some theMethod := by decide +kernel
set_option maxRecDepth 65536 in
theorem w_hears : about1.hears theMethod below0 = true := by decide +kernel
set_option maxRecDepth 65536 in
theorem w_ripe : about1.ripe theMethod args0 below0 = true := by decide +kernel
theorem w_running : about1.status = .running := rfl
set_option maxRecDepth 65536 in
theorem w_room : about1.hasRoom e0.platform room_1 = true :=
  launch0.hasRoom_least _ room_1 (by decide +kernel) (by decide +kernel) (by decide +kernel) (by decide +kernel) (by decide +kernel) (by decide +kernel)
theorem allAtoms_all (ts : List Jvm.Cond) (a : Array Jvm.Value) (st : Jvm.State) : (allAtoms ts).before a st = ts.all (fun c => c.before a st) := by
  induction ts with
  | nil => rfl
  | cons c t ih =>
    show (Jvm.Cond.and c (allAtoms t)).before a st = _
    rw [Jvm.Cond.before_and, ih, List.all_cons]
def words1 : List Jvm.Cond := Jvm.Cond.code x code maxLocals ret :: tables_1
/-- a 'code' word, met by the world's own term for the bytes: nothing is compared byte by byte -/
theorem code_word {y : MethodName} {bytes : ByteArray} {mx : Nat} {rt : Option FieldType} {a : Array Value} {s : State} {m : MethodId} {meth : Method} {c : Code} (h1 : s.methodNamed? y = some m) (h2 : s.vm.method? m = some meth) (h3 : meth.code = some c) (h4 : c.code = bytes)
    (h5 : (c.maxLocals == mx && c.exceptionTable.isEmpty && decide (c.maxStack ≤ mostOperands) && decide (meth.sig.returnType = rt) && !meth.locks && decide (parseMethodDescriptor y.desc = some meth.sig)) = true) : (Jvm.Cond.code y bytes mx rt).before a s = true := by
  simp only [Bool.and_eq_true, beq_iff_eq, Bool.not_eq_true', decide_eq_true_eq] at h5
  obtain ⟨⟨⟨⟨⟨g1, g2⟩, g3⟩, g4⟩, g5⟩, g6⟩ := h5
  simp [Cond.before, Cond.holds, Cond.value, h1, h2, h3, h4, g1, g2, g3, g4, g5, g6]
def isCode : Jvm.Cond → Bool
  | .code _ _ _ _ => true
  | _ => false
theorem all_split {L : List Jvm.Cond} {P : Jvm.Cond → Bool} (h1 : L.all (fun c => isCode c || P c) = true) (h2 : ∀ c ∈ L.filter isCode, P c = true) : L.all P = true := by
  refine List.all_eq_true.mpr fun c hc => ?_
  have h := List.all_eq_true.mp h1 c hc
  rcases Bool.eq_false_or_eq_true (isCode c) with hi | hi
  · exact h2 c (List.mem_filter.mpr ⟨hc, hi⟩)
  · simpa [hi] using h
set_option maxRecDepth 65536 in
theorem w_c0 : (Jvm.Cond.code x code maxLocals ret).before args0 about1 = true := code_word (m := ⟨1, 2⟩) (meth := k1m2) (c := k1c2) (by decide +kernel) rfl rfl rfl (by decide +kernel)
set_option maxRecDepth 65536 in
theorem w_c1 : (Jvm.Cond.code ({ cls := "com/example/horarium/horarium/engine/CampusScoreHardPinLaw", name := "f", desc := "(IIIJJJ)J" } : Jvm.MethodName) method_2_code (11 : Nat) (Option.some Jvm.ClassFile.FieldType.long)).before args0 about1 = true := code_word (m := ⟨1, 1⟩) (meth := k1m1) (c := k1c1) (by decide +kernel) rfl rfl rfl (by decide +kernel)
set_option maxRecDepth 65536 in
theorem w_c2 : (Jvm.Cond.code ({ cls := "com/example/horarium/horarium/engine/CampusScore", name := "<init>", desc := "(JJJJJJJJJJJD)V" } : Jvm.MethodName) prog_45_method_1_code (25 : Nat) (Option.none : Option Jvm.ClassFile.FieldType)).before args0 about1 = true := code_word (m := ⟨3, 0⟩) (meth := k3m0) (c := k3c0) (by decide +kernel) rfl rfl rfl (by decide +kernel)
set_option maxRecDepth 65536 in
theorem w_c3 : (Jvm.Cond.code ({ cls := "java/lang/Record", name := "<init>", desc := "()V" } : Jvm.MethodName) jdk_30_method_1_code (1 : Nat) (Option.none : Option Jvm.ClassFile.FieldType)).before args0 about1 = true := code_word (m := ⟨2, 0⟩) (meth := k2m0) (c := k2c0) (by decide +kernel) rfl rfl rfl (by decide +kernel)
set_option maxRecDepth 65536 in
theorem w_c4 : (Jvm.Cond.code ({ cls := "java/lang/Object", name := "<init>", desc := "()V" } : Jvm.MethodName) object_method_1_code (1 : Nat) (Option.none : Option Jvm.ClassFile.FieldType)).before args0 about1 = true := code_word (m := ⟨0, 0⟩) (meth := k0m0) (c := k0c0) (by decide +kernel) rfl rfl rfl (by decide +kernel)
set_option maxRecDepth 65536 in
theorem w_c5 : (Jvm.Cond.code ({ cls := "com/example/horarium/horarium/engine/CampusScore", name := "hard", desc := "()J" } : Jvm.MethodName) prog_45_method_2_code (1 : Nat) (Option.some Jvm.ClassFile.FieldType.long)).before args0 about1 = true := code_word (m := ⟨3, 1⟩) (meth := k3m1) (c := k3c1) (by decide +kernel) rfl rfl rfl (by decide +kernel)
def codes1 : List Jvm.Cond := [Jvm.Cond.code x code maxLocals ret, Jvm.Cond.code ({ cls := "com/example/horarium/horarium/engine/CampusScoreHardPinLaw", name := "f", desc := "(IIIJJJ)J" } : Jvm.MethodName) method_2_code (11 : Nat) (Option.some Jvm.ClassFile.FieldType.long), Jvm.Cond.code ({ cls := "com/example/horarium/horarium/engine/CampusScore", name := "<init>", desc := "(JJJJJJJJJJJD)V" } : Jvm.MethodName) prog_45_method_1_code (25 : Nat) (Option.none : Option Jvm.ClassFile.FieldType), Jvm.Cond.code ({ cls := "java/lang/Record", name := "<init>", desc := "()V" } : Jvm.MethodName) jdk_30_method_1_code (1 : Nat) (Option.none : Option Jvm.ClassFile.FieldType), Jvm.Cond.code ({ cls := "java/lang/Object", name := "<init>", desc := "()V" } : Jvm.MethodName) object_method_1_code (1 : Nat) (Option.none : Option Jvm.ClassFile.FieldType), Jvm.Cond.code ({ cls := "com/example/horarium/horarium/engine/CampusScore", name := "hard", desc := "()J" } : Jvm.MethodName) prog_45_method_2_code (1 : Nat) (Option.some Jvm.ClassFile.FieldType.long)]
set_option maxRecDepth 65536 in
theorem codes_eq : words1.filter isCode = codes1 := rfl
theorem w_codes : ∀ c ∈ words1.filter isCode, c.before args0 about1 = true := by
  rw [codes_eq]
  intro c hc
  simp only [codes1, List.mem_cons, List.not_mem_nil, or_false] at hc
  rcases hc with rfl | rfl | rfl | rfl | rfl | rfl
  · exact w_c0
  · exact w_c1
  · exact w_c2
  · exact w_c3
  · exact w_c4
  · exact w_c5
set_option maxRecDepth 65536 in
theorem w_t1 : (words1.take 24).all (fun c => isCode c || c.before args0 about1) = true := by decide +kernel
set_option maxRecDepth 65536 in
theorem w_t2 : ((words1.drop 24).take 24).all (fun c => isCode c || c.before args0 about1) = true := by decide +kernel
set_option maxRecDepth 65536 in
theorem w_t3 : ((words1.drop 24).drop 24).all (fun c => isCode c || c.before args0 about1) = true := by decide +kernel
theorem w_tables : (allAtoms (Jvm.Cond.code x code maxLocals ret :: tables_1)).before args0 about1 = true := by
  rw [allAtoms_all]
  show words1.all (fun c => c.before args0 about1) = true
  refine all_split ?_ w_codes
  rw [← List.take_append_drop 24 words1, List.all_append, w_t1, ← List.take_append_drop 24 (words1.drop 24), List.all_append, w_t2, w_t3]
  rfl
set_option maxRecDepth 65536 in
theorem w_case : (Jvm.Cond.and given_1 narrow_1).before args0 about1 = true := by decide +kernel
theorem w_applies : (headSpec (Jvm.Cond.code x code maxLocals ret :: tables_1) room_1).applies x e0.platform about1 = true :=
  (Spec.applies_iff w_frames).mpr ⟨w_running, w_runnable, w_alone, w_named, w_hears, w_ripe, w_room, w_tables⟩
theorem atStart : AtStart classFile x code maxLocals ret World_1 tables_1 room_1 Calls_1 rest_1 Pre_1 launch0 p0 e0 about1 theMethod args0 below0 :=
  ⟨lists_1, trivial, launch0.admits_env _ _ _, launch0.least_env, fairChoices_fair.cas, fairChoices_fair.clock, w_frames, w_args, w_heap, w_applies, trivial, trivial, w_case⟩
end start1
theorem witness_1 : WitnessClaimed_1 := ⟨start1.p0, start1.e0, start1.about1, start1.theMethod, start1.args0, start1.below0, start1.atStart⟩
end Jvm.Pilot.@@N@@
