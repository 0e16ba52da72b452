import JvmDerived
import JvmDerived.Pilot.@@N@@Statement
import JvmDerived.Pilot.@@N@@Code
set_option linter.unusedVariables false
set_option linter.unusedSimpArgs false
namespace Jvm.Pilot.@@N@@
open Jvm Jvm.ClassFile Sem Op Lib Jvm.Free Jvm.Stand Jvm.LawKit Jvm.RoadKit Bundle Jvm.Pilot.@@N@@.Jvm.D
open Jvm.Free.Fl
def own_nz (x : Int32) : Int64 := if x = 0 then 1 else x.toInt64
theorem own_nz0 (x : Int32) : own_nz x ≠ 0 := by
  unfold own_nz
  split
  · decide
  · rename_i h
    intro q
    apply h
    have := congrArg Int64.toInt q
    rw [Int32.toInt_toInt64] at this
    exact Int32.toInt_inj.mp this
theorem own_nzz (A : Int64) (h : A ≠ 0) : Nz64 (FP.l2d A) := by
  have b := (l2d_big h).1
  intro q
  have : (FP.l2d A).toNat % 9223372036854775808 = 0 := by
    have e := congrArg UInt64.toNat q
    rw [UInt64.toNat_and] at e
    have m : (0x7fffffffffffffff : UInt64).toNat = 2 ^ 63 - 1 := by decide
    rw [m, Nat.and_two_pow_sub_one_eq_mod] at e
    exact e
  omega
theorem own_fin1 (x : Int32) (D : Int64) (h : D ≠ 0) : Fin64 (FP.ddiv (FP.i2d x) (FP.l2d D)) := by
  have m : Mag64 (1088 + 1021 - 1023 + 3) (FP.ddiv (FP.i2d x) (FP.l2d D)) := by
    rw [i2d_w]
    exact ddiv_mag (l2d_mag _) (l2d_big h) (by decide) (by decide)
  rw [fin64_iff]
  unfold Mag64 at m
  omega
theorem own_n1 (x : Int32) (D : Int64) (h : D ≠ 0) : NoNaN64 (FP.ddiv (FP.i2d x) (FP.l2d D)) := ddiv_out (i2d_fin x).noNaN (l2d_fin D) (own_nzz D h)
theorem own_n2 (b x : Int32) (D : Int64) (h : D ≠ 0) : NoNaN64 (FP.dmul (FP.i2d b) (FP.ddiv (FP.i2d x) (FP.l2d D))) := dmul_out (i2d_fin b) (own_fin1 x D h)
theorem own_n3 (y b x : Int32) (D : Int64) (h : D ≠ 0) : NoNaN64 (FP.dsub (FP.i2d y) (FP.dmul (FP.i2d b) (FP.ddiv (FP.i2d x) (FP.l2d D)))) := dsub_out' (i2d_fin y) (own_n2 b x D h)
theorem own_n4 (y b x : Int32) (D A : Int64) (h : D ≠ 0) (hA : A ≠ 0) : NoNaN64 (FP.ddiv (FP.dsub (FP.i2d y) (FP.dmul (FP.i2d b) (FP.ddiv (FP.i2d x) (FP.l2d D)))) (FP.l2d A)) := ddiv_out (own_n3 y b x D h) (l2d_fin A) (own_nzz A hA)
theorem own_bit {u e0 e1 : Int32} (h0 : e0 = (u &&& (1 : Int32))) (h1 : e1 = ((1 : Int32) - e0)) : (e0 = 0 ∧ e1 = 1) ∨ (e0 = 1 ∧ e1 = 0) := by
  have g := c_mask u 1 1 (by decide) (by decide)
  rw [← h0] at g
  have k0 : (0 : Int32).toInt = 0 := by decide
  have k1 : (1 : Int32).toInt = 1 := by decide
  have hh : e0 = 0 ∨ e0 = 1 := by
    simp only [← Int32.toInt_inj, k0, k1]
    omega
  subst h1
  rcases hh with q | q
  · rw [q]; exact Or.inl ⟨rfl, by decide⟩
  · rw [q]; exact Or.inr ⟨rfl, by decide⟩
def own_Fac (Z : State) (h : Heap) (f rb ml ln pe pu pc : Addr) (kr km kl ke ku kc : ClassId) (z cnt : Int32) (rd : Int64) (lrb lml lln lpe lpu lpc : List Value) : Prop :=
  Exa Z h f "com/example/sondage/sondage/inference/Factorization" ∧ Fld Z h f "com/example/sondage/sondage/inference/Factorization" "unknownCount" "I" (.int z) ∧ Fld Z h f "com/example/sondage/sondage/inference/Factorization" "pivotCount" "I" (.int cnt) ∧ Fld Z h f "com/example/sondage/sondage/inference/Factorization" "reductions" "J" (.long rd) ∧ Fld Z h f "com/example/sondage/sondage/inference/Factorization" "reducedBy" "[[I" (.ref rb) ∧ Fld Z h f "com/example/sondage/sondage/inference/Factorization" "multipliers" "[[D" (.ref ml) ∧ Fld Z h f "com/example/sondage/sondage/inference/Factorization" "lengths" "[I" (.ref ln) ∧ Fld Z h f "com/example/sondage/sondage/inference/Factorization" "pivotEquation" "[I" (.ref pe) ∧ Fld Z h f "com/example/sondage/sondage/inference/Factorization" "pivotUnknowns" "[[I" (.ref pu) ∧ Fld Z h f "com/example/sondage/sondage/inference/Factorization" "pivotCoefficients" "[[D" (.ref pc) ∧ Arv Z h rb kr (.array .int) z lrb .null ∧ Arv Z h ml km (.array .double) z lml .null ∧ Arv Z h ln kl .int z lln (.int (0 : Int32)) ∧ Arv Z h pe ke .int z lpe (.int (0 : Int32)) ∧ Arv Z h pu ku (.array .int) z lpu .null ∧ Arv Z h pc kc (.array .double) z lpc .null
def own_Sep (Z : State) (n0 : Nat) (f rb ml ln pe pu pc : Addr) (kr km ku kc : ClassId) : Prop :=
  n0 ≤ f ∧ n0 ≤ rb ∧ n0 ≤ ml ∧ n0 ≤ ln ∧ n0 ≤ pe ∧ n0 ≤ pu ∧ n0 ≤ pc ∧ f ≠ rb ∧ f ≠ ml ∧ f ≠ ln ∧ f ≠ pe ∧ f ≠ pu ∧ f ≠ pc ∧ rb ≠ ml ∧ rb ≠ ln ∧ rb ≠ pe ∧ rb ≠ pu ∧ rb ≠ pc ∧ ml ≠ ln ∧ ml ≠ pe ∧ ml ≠ pu ∧ ml ≠ pc ∧ ln ≠ pe ∧ ln ≠ pu ∧ ln ≠ pc ∧ pe ≠ pu ∧ pe ≠ pc ∧ pu ≠ pc ∧ OvrA Z kr .int "[I" ∧ OvrA Z km .double "[D" ∧ OvrA Z ku .int "[I" ∧ OvrA Z kc .double "[D"
theorem d3_0 : decode jdk_29_method_69_code 0 = .ok (.iload_n 0, 1) := by decide +kernel
theorem d3_1 : decode jdk_29_method_69_code 1 = .ok (.iload_n 1, 1) := by decide +kernel
theorem d3_2 : decode jdk_29_method_69_code 2 = .ok (.if_icmp .gt 7, 3) := by decide +kernel
theorem d3_5 : decode jdk_29_method_69_code 5 = .ok (.iload_n 0, 1) := by decide +kernel
theorem d3_6 : decode jdk_29_method_69_code 6 = .ok (.goto 4, 3) := by decide +kernel
theorem d3_9 : decode jdk_29_method_69_code 9 = .ok (.iload_n 1, 1) := by decide +kernel
theorem d3_10 : decode jdk_29_method_69_code 10 = .ok (.ireturn, 1) := by decide +kernel
theorem ef_rm3 (m : MethodId) (p0 : Int32) (p1 : Int32) : entryFrame m #[(.int p0), (.int p1)] 2 = (mkF m 0 #[.val (.int p0), .val (.int p1)] []) := by first | (simp [entryFrame, mkF, argsToLocals, Value.category]; done) | rfl
def Q3 (Z : State) (p0 : Int32) (p1 : Int32) (h0 : Heap) (n0 : Nat) (v : Option Value) (h : Heap) (L : List Loc) : Prop := v = some (.int p0) ∧ Fr n0 L ∧ h = h0
set_option maxRecDepth 65536 in
set_option maxHeartbeats 40000000 in
theorem rm3 (l : Launch) (Z : State) (aa : Array Value) (hw : ∀ d ∈ tables_1, d.before aa Z = true) (ws : List Jvm.Cond) (p0 : Int32) (p1 : Int32) (h0 : Heap) (n0 : Nat) (Z0 : n0 ≤ h0.size) (hle : ¬ p1 < p0) :
    MetFree l (⟨"java/lang/Math", "min", "(II)I"⟩ : MethodName) (head1 (Jvm.Cond.code (⟨"java/lang/Math", "min", "(II)I"⟩ : MethodName) jdk_29_method_69_code 2 (some .int) :: ws) ({ frames := 0, cells := 0, slots := 0, locals := 0 } : Room)) (fun a U => a = #[(.int p0), (.int p1)] ∧ Z.Warmed39 U.vm ∧ U.heap = h0) (fun _ _ _ _ _ => True) (fun _ U o U' => ∃ v L, o = .returned v ∧ Q3 Z p0 p1 h0 n0 v U'.heap L ∧ FrameEnd U o U' L ({ frames := 0, cells := 0, slots := 0, locals := 0 } : Room).cells ({ frames := 0, cells := 0, slots := 0, locals := 0 } : Room).slots) := by
  refine MetFree.of_bodySF (Jvm.Free.JP.mathPlain rfl (by decide +kernel)) hisR ?_
  intro p e s m args below meth c s₁ Bd hml0 hP hK
  obtain ⟨rfl, hZ, hh⟩ := hP
  have hx := Bd.exec
  have hby := Bd.bytes
  have hml : c.maxLocals = 2 := hml0
  have hown : s.vm.findClass "java/lang/Math" = some m.cls := findClass_of_methodNamed Bd.named
  have hnm := (name_of_methodNamed Bd.named Bd.method).1
  have X0 : Stand p l e ({ frames := 0, cells := 0, slots := 0, locals := 0 } : Room) s m #[(.int p0), (.int p1)] below meth c s₁ [] 0 0 := Stand.of_body Bd
  have e0 : s₁.heap = h0 := by rw [← hh, Bd.state]; rfl
  have N0 := Fr.nil n0
  obtain ⟨G0, hG0⟩ : ∃ G, G = s₁.setTop (entryFrame m #[(.int p0), (.int p1)] 2) := ⟨_, rfl⟩
  have K0 : ∀ t, Steps p.tables e below (s₁.setTop (mkF m 0 #[.val (.int p0), .val (.int p1)] [])) t → Steps p.tables e below G0 t := fun t k => by rw [hG0]; exact castTop (ef_rm3 m p0 p1) k
  have K1 : ∀ t, Steps p.tables e below (s₁.setTop (mkF m 10 #[.val (.int p0), .val (.int p1)] [(.int p0)])) t → Steps p.tables e below G0 t := by
    intro t kt
    refine K0 t ?_
    refine XS.iloadN X0.here hx rfl (hb hby d3_0) rfl ?_
    show Steps p.tables e below (s₁.setTop (mkF m 1 #[.val (.int p0), .val (.int p1)] [(.int p0)])) _
    refine XS.iloadN X0.here hx rfl (hb hby d3_1) rfl ?_
    show Steps p.tables e below (s₁.setTop (mkF m 2 #[.val (.int p0), .val (.int p1)] [(.int p1), (.int p0)])) _
    refine XS.icmpNo X0.here hx rfl (hb hby d3_2) rfl (flt hle).2.2.1 ?_
    show Steps p.tables e below (s₁.setTop (mkF m 5 #[.val (.int p0), .val (.int p1)] [])) _
    refine XS.iloadN X0.here hx rfl (hb hby d3_5) rfl ?_
    show Steps p.tables e below (s₁.setTop (mkF m 6 #[.val (.int p0), .val (.int p1)] [(.int p0)])) _
    refine XS.goto X0.here hx rfl (pc0 := 6) (pc' := 10) rfl (hb hby d3_6) (by decide) (by decide) ?_
    show Steps p.tables e below (s₁.setTop (mkF m 10 #[.val (.int p0), .val (.int p1)] [(.int p0)])) _
    exact kt
  obtain ⟨fs, hr, hrun, hended, hW, hsame⟩ := X0.leave (v := some (.int p0)) (fun h => by rw [Bd.returns] at h; cases h)
  refine ⟨_, _, ?_, hrun, hended, _, _, rfl, ?_, ⟨_, rfl⟩, hW, hsame.mono (by decide) (by decide)⟩
  · rw [← hG0]
    refine K1 _ ?_
    exact retOut X0 hx (t := .int) Bd.returns rfl (Or.inl ⟨rfl, Or.inl rfl, _, rfl⟩) (hb hby d3_10) hr
  · show Q3 Z p0 p1 h0 n0 _ s₁.heap _
    rw [e0]
    exact ⟨rfl, N0, rfl⟩
theorem d1_0 : decode prog_18_method_1_code 0 = .ok (.aload_n 0, 1) := by decide +kernel
theorem d1_1 : decode prog_18_method_1_code 1 = .ok (.invokespecial 1, 3) := by decide +kernel
theorem d1_4 : decode prog_18_method_1_code 4 = .ok (.aload_n 0, 1) := by decide +kernel
theorem d1_5 : decode prog_18_method_1_code 5 = .ok (.iload_n 1, 1) := by decide +kernel
theorem d1_6 : decode prog_18_method_1_code 6 = .ok (.putfield 7, 3) := by decide +kernel
theorem d1_9 : decode prog_18_method_1_code 9 = .ok (.aload_n 0, 1) := by decide +kernel
theorem d1_10 : decode prog_18_method_1_code 10 = .ok (.iload_n 1, 1) := by decide +kernel
theorem d1_11 : decode prog_18_method_1_code 11 = .ok (.newarray .boolean, 2) := by decide +kernel
theorem d1_13 : decode prog_18_method_1_code 13 = .ok (.putfield 13, 3) := by decide +kernel
theorem d1_16 : decode prog_18_method_1_code 16 = .ok (.aload_n 0, 1) := by decide +kernel
theorem d1_17 : decode prog_18_method_1_code 17 = .ok (.iload_n 2, 1) := by decide +kernel
theorem d1_18 : decode prog_18_method_1_code 18 = .ok (.anewarray 17, 3) := by decide +kernel
theorem d1_21 : decode prog_18_method_1_code 21 = .ok (.putfield 19, 3) := by decide +kernel
theorem d1_24 : decode prog_18_method_1_code 24 = .ok (.aload_n 0, 1) := by decide +kernel
theorem d1_25 : decode prog_18_method_1_code 25 = .ok (.iload_n 2, 1) := by decide +kernel
theorem d1_26 : decode prog_18_method_1_code 26 = .ok (.anewarray 23, 3) := by decide +kernel
theorem d1_29 : decode prog_18_method_1_code 29 = .ok (.putfield 25, 3) := by decide +kernel
theorem d1_32 : decode prog_18_method_1_code 32 = .ok (.aload_n 0, 1) := by decide +kernel
theorem d1_33 : decode prog_18_method_1_code 33 = .ok (.iload_n 2, 1) := by decide +kernel
theorem d1_34 : decode prog_18_method_1_code 34 = .ok (.newarray .int, 2) := by decide +kernel
theorem d1_36 : decode prog_18_method_1_code 36 = .ok (.putfield 29, 3) := by decide +kernel
theorem d1_39 : decode prog_18_method_1_code 39 = .ok (.iload_n 1, 1) := by decide +kernel
theorem d1_40 : decode prog_18_method_1_code 40 = .ok (.iload_n 2, 1) := by decide +kernel
theorem d1_41 : decode prog_18_method_1_code 41 = .ok (.invokestatic 32, 3) := by decide +kernel
theorem d1_44 : decode prog_18_method_1_code 44 = .ok (.istore_n 3, 1) := by decide +kernel
theorem d1_45 : decode prog_18_method_1_code 45 = .ok (.aload_n 0, 1) := by decide +kernel
theorem d1_46 : decode prog_18_method_1_code 46 = .ok (.iload_n 3, 1) := by decide +kernel
theorem d1_47 : decode prog_18_method_1_code 47 = .ok (.newarray .int, 2) := by decide +kernel
theorem d1_49 : decode prog_18_method_1_code 49 = .ok (.putfield 38, 3) := by decide +kernel
theorem d1_52 : decode prog_18_method_1_code 52 = .ok (.aload_n 0, 1) := by decide +kernel
theorem d1_53 : decode prog_18_method_1_code 53 = .ok (.iload_n 3, 1) := by decide +kernel
theorem d1_54 : decode prog_18_method_1_code 54 = .ok (.anewarray 17, 3) := by decide +kernel
theorem d1_57 : decode prog_18_method_1_code 57 = .ok (.putfield 41, 3) := by decide +kernel
theorem d1_60 : decode prog_18_method_1_code 60 = .ok (.aload_n 0, 1) := by decide +kernel
theorem d1_61 : decode prog_18_method_1_code 61 = .ok (.iload_n 3, 1) := by decide +kernel
theorem d1_62 : decode prog_18_method_1_code 62 = .ok (.anewarray 23, 3) := by decide +kernel
theorem d1_65 : decode prog_18_method_1_code 65 = .ok (.putfield 44, 3) := by decide +kernel
theorem d1_68 : decode prog_18_method_1_code 68 = .ok (.return_, 1) := by decide +kernel
theorem pn_com_example_sondage_sondage_inference_Factorization : plainName "com/example/sondage/sondage/inference/Factorization" = true := by first | (simp [plainName, overriddenIn]; done) | decide +kernel
theorem pd_PIIQI : parseMethodDescriptor "(II)I" = some ⟨[.int, .int], some .int⟩ := by decide +kernel
theorem ef_rm1 (m : MethodId) (a0 : Addr) : entryFrame m #[(.ref a0), (.int (2 : Int32)), (.int (2 : Int32))] 4 = (mkF m 0 #[.val (.ref a0), .val (.int (2 : Int32)), .val (.int (2 : Int32)), .unset] []) := by first | (simp [entryFrame, mkF, argsToLocals, Value.category]; done) | rfl
def Q1 (Z : State) (a0 : Addr) (u_unknownCount : Value) (u_determined : Value) (u_reducedBy : Value) (u_multipliers : Value) (u_lengths : Value) (u_pivotEquation : Value) (u_pivotUnknowns : Value) (u_pivotCoefficients : Value) (h0 : Heap) (n0 : Nat) (v : Option Value) (h : Heap) (L : List Loc) : Prop := v = none ∧ Fr n0 L ∧ Keep h0 h [a0] ∧ ∃ (rb ml ln pe pu pc : Addr) (kr km kl ke ku kc : ClassId), own_Sep Z n0 a0 rb ml ln pe pu pc kr km ku kc ∧ own_Fac Z h a0 rb ml ln pe pu pc kr km kl ke ku kc (2 : Int32) (0 : Int32) (0 : Int64) [.null, .null] [.null, .null] [(.int (0 : Int32)), (.int (0 : Int32))] [(.int (0 : Int32)), (.int (0 : Int32))] [.null, .null] [.null, .null]
set_option maxRecDepth 65536 in
set_option maxHeartbeats 40000000 in
theorem rm1 (l : Launch) (Z : State) (aa : Array Value) (hw : ∀ d ∈ tables_1, d.before aa Z = true) (ws : List Jvm.Cond) (a0 : Addr) (u_unknownCount : Value) (u_determined : Value) (u_reducedBy : Value) (u_multipliers : Value) (u_lengths : Value) (u_pivotEquation : Value) (u_pivotUnknowns : Value) (u_pivotCoefficients : Value) (h0 : Heap) (n0 : Nat) (Z0 : n0 ≤ h0.size) (gn : n0 ≤ a0) (E0 : Exa Z h0 a0 "com/example/sondage/sondage/inference/Factorization") (F_unknownCount : Fld Z h0 a0 "com/example/sondage/sondage/inference/Factorization" "unknownCount" "I" u_unknownCount) (F_determined : Fld Z h0 a0 "com/example/sondage/sondage/inference/Factorization" "determined" "[Z" u_determined) (F_reducedBy : Fld Z h0 a0 "com/example/sondage/sondage/inference/Factorization" "reducedBy" "[[I" u_reducedBy) (F_multipliers : Fld Z h0 a0 "com/example/sondage/sondage/inference/Factorization" "multipliers" "[[D" u_multipliers) (F_lengths : Fld Z h0 a0 "com/example/sondage/sondage/inference/Factorization" "lengths" "[I" u_lengths) (F_pivotEquation : Fld Z h0 a0 "com/example/sondage/sondage/inference/Factorization" "pivotEquation" "[I" u_pivotEquation) (F_pivotUnknowns : Fld Z h0 a0 "com/example/sondage/sondage/inference/Factorization" "pivotUnknowns" "[[I" u_pivotUnknowns) (F_pivotCoefficients : Fld Z h0 a0 "com/example/sondage/sondage/inference/Factorization" "pivotCoefficients" "[[D" u_pivotCoefficients) (F_pivotCount : Fld Z h0 a0 "com/example/sondage/sondage/inference/Factorization" "pivotCount" "I" (.int (0 : Int32))) (F_reductions : Fld Z h0 a0 "com/example/sondage/sondage/inference/Factorization" "reductions" "J" (.long (0 : Int64))) :
    MetFree l (⟨"com/example/sondage/sondage/inference/Factorization", "<init>", "(II)V"⟩ : MethodName) (head1 (Jvm.Cond.code (⟨"com/example/sondage/sondage/inference/Factorization", "<init>", "(II)V"⟩ : MethodName) prog_18_method_1_code 4 none :: ws) ({ frames := 1, cells := 7, slots := 14, locals := 13 } : Room)) (fun a U => a = #[(.ref a0), (.int (2 : Int32)), (.int (2 : Int32))] ∧ Z.Warmed39 U.vm ∧ U.heap = h0) (fun _ _ _ _ _ => True) (fun _ U o U' => ∃ v L, o = .returned v ∧ Q1 Z a0 u_unknownCount u_determined u_reducedBy u_multipliers u_lengths u_pivotEquation u_pivotUnknowns u_pivotCoefficients h0 n0 v U'.heap L ∧ FrameEnd U o U' L ({ frames := 1, cells := 7, slots := 14, locals := 13 } : Room).cells ({ frames := 1, cells := 7, slots := 14, locals := 13 } : Room).slots) := by
  refine MetFree.of_bodySF (plainFor_of_name pn_com_example_sondage_sondage_inference_Factorization) hisR ?_
  intro p e s m args below meth c s₁ Bd hml0 hP hK
  obtain ⟨rfl, hZ, hh⟩ := hP
  have hx := Bd.exec
  have hby := Bd.bytes
  have hml : c.maxLocals = 4 := hml0
  have hown : s.vm.findClass "com/example/sondage/sondage/inference/Factorization" = some m.cls := findClass_of_methodNamed Bd.named
  have hnm := (name_of_methodNamed Bd.named Bd.method).1
  have X0 : Stand p l e ({ frames := 1, cells := 7, slots := 14, locals := 13 } : Room) s m #[(.ref a0), (.int (2 : Int32)), (.int (2 : Int32))] below meth c s₁ [] 0 0 := Stand.of_body Bd
  have e0 : s₁.heap = h0 := by rw [← hh, Bd.state]; rfl
  have N0 := Fr.nil n0
  obtain ⟨G0, hG0⟩ : ∃ G, G = s₁.setTop (entryFrame m #[(.ref a0), (.int (2 : Int32)), (.int (2 : Int32))] 4) := ⟨_, rfl⟩
  have K0 : ∀ t, Steps p.tables e below (s₁.setTop (mkF m 0 #[.val (.ref a0), .val (.int (2 : Int32)), .val (.int (2 : Int32)), .unset] [])) t → Steps p.tables e below G0 t := fun t k => by rw [hG0]; exact castTop (ef_rm1 m a0) k
  have K1 : ∀ t, Steps p.tables e below (s₁.setTop (mkF m 1 #[.val (.ref a0), .val (.int (2 : Int32)), .val (.int (2 : Int32)), .unset] [(.ref a0)])) t → Steps p.tables e below G0 t := by
    intro t kt
    refine K0 t ?_
    refine XS.aloadN X0.here hx rfl (hb hby d1_0) rfl rfl ?_
    show Steps p.tables e below (s₁.setTop (mkF m 1 #[.val (.ref a0), .val (.int (2 : Int32)), .val (.int (2 : Int32)), .unset] [(.ref a0)])) _
    exact kt
  obtain ⟨T2, X2, e2, st2⟩ := initO X0 hx hZ hown (hw _ (List.mem_of_getElem? (i := 6) rfl)) (hw _ (List.mem_of_getElem? (i := 7) rfl)) (hw _ (List.mem_of_getElem? (i := 8) rfl)) e0 (g := (mkF m 1 #[.val (.ref a0), .val (.int (2 : Int32)), .val (.int (2 : Int32)), .unset] [(.ref a0)])) rfl (by rw [hml]; rfl) rfl (hb hby d1_1) (by decide) (W := 0) (by show 2 * 0 + _ ≤ _; exact Nat.le_of_eq rfl) (by decide)
  have K2 : ∀ t, Steps p.tables e below (T2.setTop (mkF m 4 #[.val (.ref a0), .val (.int (2 : Int32)), .val (.int (2 : Int32)), .unset] [])) t → Steps p.tables e below G0 t := fun t kt => K1 t (st2 _ kt)
  have K3 : ∀ t, Steps p.tables e below (T2.setTop (mkF m 6 #[.val (.ref a0), .val (.int (2 : Int32)), .val (.int (2 : Int32)), .unset] [(.int (2 : Int32)), (.ref a0)])) t → Steps p.tables e below G0 t := by
    intro t kt
    refine K2 t ?_
    refine XS.aloadN X2.here hx rfl (hb hby d1_4) rfl rfl ?_
    show Steps p.tables e below (T2.setTop (mkF m 5 #[.val (.ref a0), .val (.int (2 : Int32)), .val (.int (2 : Int32)), .unset] [(.ref a0)])) _
    refine XS.iloadN X2.here hx rfl (hb hby d1_5) rfl ?_
    show Steps p.tables e below (T2.setTop (mkF m 6 #[.val (.ref a0), .val (.int (2 : Int32)), .val (.int (2 : Int32)), .unset] [(.int (2 : Int32)), (.ref a0)])) _
    exact kt
  obtain ⟨T4, h4, X4, e4, W4, st4⟩ := putF X2 hx hZ hown (host := "") (Or.inl (hw _ (List.mem_of_getElem? (i := 9) rfl))) Via.refl e2 F_unknownCount E0 (Or.inr ⟨(hw _ (List.mem_of_getElem? (i := 10) rfl)), rfl, hnm⟩) (hw _ (List.mem_of_getElem? (i := 1) rfl)) (ty := .int) (by decide) rfl rfl (g := (mkF m 6 #[.val (.ref a0), .val (.int (2 : Int32)), .val (.int (2 : Int32)), .unset] [(.int (2 : Int32)), (.ref a0)])) rfl rfl (hb hby d1_6)
  have K4 : ∀ t, Steps p.tables e below (T4.setTop (mkF m 9 #[.val (.ref a0), .val (.int (2 : Int32)), .val (.int (2 : Int32)), .unset] [])) t → Steps p.tables e below G0 t := fun t kt => K3 t (st4 _ kt)
  have Fw4 := (F_unknownCount).same W4
  have N4 := Fr.snoc X4 N0 gn
  have Z4 : n0 ≤ h4.size := Nat.le_trans Z0 (Keep.of_wr W4).1
  have K5 : ∀ t, Steps p.tables e below (T4.setTop (mkF m 11 #[.val (.ref a0), .val (.int (2 : Int32)), .val (.int (2 : Int32)), .unset] [(.int (2 : Int32)), (.ref a0)])) t → Steps p.tables e below G0 t := by
    intro t kt
    refine K4 t ?_
    refine XS.aloadN X4.here hx rfl (hb hby d1_9) rfl rfl ?_
    show Steps p.tables e below (T4.setTop (mkF m 10 #[.val (.ref a0), .val (.int (2 : Int32)), .val (.int (2 : Int32)), .unset] [(.ref a0)])) _
    refine XS.iloadN X4.here hx rfl (hb hby d1_10) rfl ?_
    show Steps p.tables e below (T4.setTop (mkF m 11 #[.val (.ref a0), .val (.int (2 : Int32)), .val (.int (2 : Int32)), .unset] [(.int (2 : Int32)), (.ref a0)])) _
    exact kt
  have f6 := (E0.wr W4)
  obtain ⟨T7, h7, k7, X7, e7, E7, A7, st7⟩ := newP X4 hx hZ (hw _ (List.mem_of_getElem? (i := 11) rfl)) e4 (g := (mkF m 11 #[.val (.ref a0), .val (.int (2 : Int32)), .val (.int (2 : Int32)), .unset] [(.int (2 : Int32)), (.ref a0)])) rfl (hb hby d1_11) rfl (by decide) (cap := 2) (by decide) (by decide) (by decide) (by decide)
  obtain ⟨b7, g7⟩ : ∃ z, z = h4.size := ⟨_, rfl⟩
  rw [← g7] at A7 st7
  have V7 := Arv.new A7 (by decide)
  have gn7 : n0 ≤ b7 := Nat.le_trans Z4 (Nat.le_of_eq g7.symm)
  have Z7 : n0 ≤ h7.size := Nat.le_trans Z4 E7.1
  have K7 : ∀ t, Steps p.tables e below (T7.setTop (mkF m 13 #[.val (.ref a0), .val (.int (2 : Int32)), .val (.int (2 : Int32)), .unset] [(.ref b7), (.ref a0)])) t → Steps p.tables e below G0 t := fun t kt => K5 t (st7 _ kt)
  have ne_a0_b7 : a0 ≠ b7 := Nat.ne_of_lt (Nat.lt_of_lt_of_le (f6).lt (Nat.le_of_eq g7.symm))
  have VL7 : Arv Z h7 b7 k7 .boolean (2 : Int32) [(.int (0 : Int32)), (.int (0 : Int32))] (.int (0 : Int32)) := V7.pad (pad_rep [] (.int (0 : Int32)) 2)
  have f8 := ((F_determined.other W4 (Or.inr (slot_ne (Or.inr (hw _ (List.mem_of_getElem? (i := 13) rfl))) (Or.inr (hw _ (List.mem_of_getElem? (i := 10) rfl))) (by decide) (t := (.array .boolean)) (t' := .int) (by decide) (by decide)))).ext E7)
  have f9 := (f6.ext E7)
  obtain ⟨T10, h10, X10, e10, W10, st10⟩ := putF X7 hx hZ hown (host := "") (Or.inl (hw _ (List.mem_of_getElem? (i := 12) rfl))) Via.refl e7 f8 f9 (Or.inr ⟨(hw _ (List.mem_of_getElem? (i := 13) rfl)), rfl, hnm⟩) (hw _ (List.mem_of_getElem? (i := 1) rfl)) (ty := (.array .boolean)) (by decide) rfl rfl (g := (mkF m 13 #[.val (.ref a0), .val (.int (2 : Int32)), .val (.int (2 : Int32)), .unset] [(.ref b7), (.ref a0)])) rfl rfl (hb hby d1_13)
  have K10 : ∀ t, Steps p.tables e below (T10.setTop (mkF m 16 #[.val (.ref a0), .val (.int (2 : Int32)), .val (.int (2 : Int32)), .unset] [])) t → Steps p.tables e below G0 t := fun t kt => K7 t (st10 _ kt)
  have Fw10 := (f8).same W10
  have N10 := Fr.snoc X10 N4 gn
  have Z10 : n0 ≤ h10.size := Nat.le_trans Z7 (Keep.of_wr W10).1
  have K11 : ∀ t, Steps p.tables e below (T10.setTop (mkF m 18 #[.val (.ref a0), .val (.int (2 : Int32)), .val (.int (2 : Int32)), .unset] [(.int (2 : Int32)), (.ref a0)])) t → Steps p.tables e below G0 t := by
    intro t kt
    refine K10 t ?_
    refine XS.aloadN X10.here hx rfl (hb hby d1_16) rfl rfl ?_
    show Steps p.tables e below (T10.setTop (mkF m 17 #[.val (.ref a0), .val (.int (2 : Int32)), .val (.int (2 : Int32)), .unset] [(.ref a0)])) _
    refine XS.iloadN X10.here hx rfl (hb hby d1_17) rfl ?_
    show Steps p.tables e below (T10.setTop (mkF m 18 #[.val (.ref a0), .val (.int (2 : Int32)), .val (.int (2 : Int32)), .unset] [(.int (2 : Int32)), (.ref a0)])) _
    exact kt
  have f12 := (f9.wr W10)
  have f13 := (VL7.other W10 (Ne.symm ne_a0_b7))
  obtain ⟨T14, h14, k14, X14, e14, E14, A14, EA14, O14, st14⟩ := newRA X10 hx hZ hown (C := "[I") (ty := .int) (by decide) (hw _ (List.mem_of_getElem? (i := 14) rfl)) (hw _ (List.mem_of_getElem? (i := 15) rfl)) e10 (g := (mkF m 18 #[.val (.ref a0), .val (.int (2 : Int32)), .val (.int (2 : Int32)), .unset] [(.int (2 : Int32)), (.ref a0)])) rfl (hb hby d1_18) rfl (by decide) (cap := 2) (by decide) (by decide) (by decide) (by decide) (ad := "[[I") (by decide)
  obtain ⟨b14, g14⟩ : ∃ z, z = h10.size := ⟨_, rfl⟩
  rw [← g14] at A14 EA14 st14
  have V14 := Arv.new A14 (by decide)
  have gn14 : n0 ≤ b14 := Nat.le_trans Z10 (Nat.le_of_eq g14.symm)
  have Z14 : n0 ≤ h14.size := Nat.le_trans Z10 E14.1
  have K14 : ∀ t, Steps p.tables e below (T14.setTop (mkF m 21 #[.val (.ref a0), .val (.int (2 : Int32)), .val (.int (2 : Int32)), .unset] [(.ref b14), (.ref a0)])) t → Steps p.tables e below G0 t := fun t kt => K11 t (st14 _ kt)
  have ne_a0_b14 : a0 ≠ b14 := Nat.ne_of_lt (Nat.lt_of_lt_of_le (f12).lt (Nat.le_of_eq g14.symm))
  have ne_b7_b14 : b7 ≠ b14 := Nat.ne_of_lt (Nat.lt_of_lt_of_le (f13).lt (Nat.le_of_eq g14.symm))
  have VL14 : Arv Z h14 b14 k14 (.array .int) (2 : Int32) [.null, .null] .null := V14.pad (pad_rep [] .null 2)
  have f15 := ((((F_reducedBy.other W4 (Or.inr (slot_ne (Or.inr (hw _ (List.mem_of_getElem? (i := 17) rfl))) (Or.inr (hw _ (List.mem_of_getElem? (i := 10) rfl))) (by decide) (t := (.array (.array .int))) (t' := .int) (by decide) (by decide)))).ext E7).other W10 (Or.inr (slot_ne (Or.inr (hw _ (List.mem_of_getElem? (i := 17) rfl))) (Or.inr (hw _ (List.mem_of_getElem? (i := 13) rfl))) (by decide) (t := (.array (.array .int))) (t' := (.array .boolean)) (by decide) (by decide)))).ext E14)
  have f16 := (f12.ext E14)
  obtain ⟨T17, h17, X17, e17, W17, st17⟩ := putF X14 hx hZ hown (host := "") (Or.inl (hw _ (List.mem_of_getElem? (i := 16) rfl))) Via.refl e14 f15 f16 (Or.inr ⟨(hw _ (List.mem_of_getElem? (i := 17) rfl)), rfl, hnm⟩) (hw _ (List.mem_of_getElem? (i := 1) rfl)) (ty := (.array (.array .int))) (by decide) rfl rfl (g := (mkF m 21 #[.val (.ref a0), .val (.int (2 : Int32)), .val (.int (2 : Int32)), .unset] [(.ref b14), (.ref a0)])) rfl rfl (hb hby d1_21)
  have K17 : ∀ t, Steps p.tables e below (T17.setTop (mkF m 24 #[.val (.ref a0), .val (.int (2 : Int32)), .val (.int (2 : Int32)), .unset] [])) t → Steps p.tables e below G0 t := fun t kt => K14 t (st17 _ kt)
  have Fw17 := (f15).same W17
  have N17 := Fr.snoc X17 N10 gn
  have Z17 : n0 ≤ h17.size := Nat.le_trans Z14 (Keep.of_wr W17).1
  have K18 : ∀ t, Steps p.tables e below (T17.setTop (mkF m 26 #[.val (.ref a0), .val (.int (2 : Int32)), .val (.int (2 : Int32)), .unset] [(.int (2 : Int32)), (.ref a0)])) t → Steps p.tables e below G0 t := by
    intro t kt
    refine K17 t ?_
    refine XS.aloadN X17.here hx rfl (hb hby d1_24) rfl rfl ?_
    show Steps p.tables e below (T17.setTop (mkF m 25 #[.val (.ref a0), .val (.int (2 : Int32)), .val (.int (2 : Int32)), .unset] [(.ref a0)])) _
    refine XS.iloadN X17.here hx rfl (hb hby d1_25) rfl ?_
    show Steps p.tables e below (T17.setTop (mkF m 26 #[.val (.ref a0), .val (.int (2 : Int32)), .val (.int (2 : Int32)), .unset] [(.int (2 : Int32)), (.ref a0)])) _
    exact kt
  have f19 := (f16.wr W17)
  have f20 := ((f13.ext E14).other W17 (Ne.symm ne_a0_b7))
  have f21 := (VL14.other W17 (Ne.symm ne_a0_b14))
  obtain ⟨T22, h22, k22, X22, e22, E22, A22, EA22, O22, st22⟩ := newRA X17 hx hZ hown (C := "[D") (ty := .double) (by decide) (hw _ (List.mem_of_getElem? (i := 18) rfl)) (hw _ (List.mem_of_getElem? (i := 19) rfl)) e17 (g := (mkF m 26 #[.val (.ref a0), .val (.int (2 : Int32)), .val (.int (2 : Int32)), .unset] [(.int (2 : Int32)), (.ref a0)])) rfl (hb hby d1_26) rfl (by decide) (cap := 2) (by decide) (by decide) (by decide) (by decide) (ad := "[[D") (by decide)
  obtain ⟨b22, g22⟩ : ∃ z, z = h17.size := ⟨_, rfl⟩
  rw [← g22] at A22 EA22 st22
  have V22 := Arv.new A22 (by decide)
  have gn22 : n0 ≤ b22 := Nat.le_trans Z17 (Nat.le_of_eq g22.symm)
  have Z22 : n0 ≤ h22.size := Nat.le_trans Z17 E22.1
  have K22 : ∀ t, Steps p.tables e below (T22.setTop (mkF m 29 #[.val (.ref a0), .val (.int (2 : Int32)), .val (.int (2 : Int32)), .unset] [(.ref b22), (.ref a0)])) t → Steps p.tables e below G0 t := fun t kt => K18 t (st22 _ kt)
  have ne_a0_b22 : a0 ≠ b22 := Nat.ne_of_lt (Nat.lt_of_lt_of_le (f19).lt (Nat.le_of_eq g22.symm))
  have ne_b7_b22 : b7 ≠ b22 := Nat.ne_of_lt (Nat.lt_of_lt_of_le (f20).lt (Nat.le_of_eq g22.symm))
  have ne_b14_b22 : b14 ≠ b22 := Nat.ne_of_lt (Nat.lt_of_lt_of_le (f21).lt (Nat.le_of_eq g22.symm))
  have VL22 : Arv Z h22 b22 k22 (.array .double) (2 : Int32) [.null, .null] .null := V22.pad (pad_rep [] .null 2)
  have f23 := ((((((F_multipliers.other W4 (Or.inr (slot_ne (Or.inr (hw _ (List.mem_of_getElem? (i := 21) rfl))) (Or.inr (hw _ (List.mem_of_getElem? (i := 10) rfl))) (by decide) (t := (.array (.array .double))) (t' := .int) (by decide) (by decide)))).ext E7).other W10 (Or.inr (slot_ne (Or.inr (hw _ (List.mem_of_getElem? (i := 21) rfl))) (Or.inr (hw _ (List.mem_of_getElem? (i := 13) rfl))) (by decide) (t := (.array (.array .double))) (t' := (.array .boolean)) (by decide) (by decide)))).ext E14).other W17 (Or.inr (slot_ne (Or.inr (hw _ (List.mem_of_getElem? (i := 21) rfl))) (Or.inr (hw _ (List.mem_of_getElem? (i := 17) rfl))) (by decide) (t := (.array (.array .double))) (t' := (.array (.array .int))) (by decide) (by decide)))).ext E22)
  have f24 := (f19.ext E22)
  obtain ⟨T25, h25, X25, e25, W25, st25⟩ := putF X22 hx hZ hown (host := "") (Or.inl (hw _ (List.mem_of_getElem? (i := 20) rfl))) Via.refl e22 f23 f24 (Or.inr ⟨(hw _ (List.mem_of_getElem? (i := 21) rfl)), rfl, hnm⟩) (hw _ (List.mem_of_getElem? (i := 1) rfl)) (ty := (.array (.array .double))) (by decide) rfl rfl (g := (mkF m 29 #[.val (.ref a0), .val (.int (2 : Int32)), .val (.int (2 : Int32)), .unset] [(.ref b22), (.ref a0)])) rfl rfl (hb hby d1_29)
  have K25 : ∀ t, Steps p.tables e below (T25.setTop (mkF m 32 #[.val (.ref a0), .val (.int (2 : Int32)), .val (.int (2 : Int32)), .unset] [])) t → Steps p.tables e below G0 t := fun t kt => K22 t (st25 _ kt)
  have Fw25 := (f23).same W25
  have N25 := Fr.snoc X25 N17 gn
  have Z25 : n0 ≤ h25.size := Nat.le_trans Z22 (Keep.of_wr W25).1
  have K26 : ∀ t, Steps p.tables e below (T25.setTop (mkF m 34 #[.val (.ref a0), .val (.int (2 : Int32)), .val (.int (2 : Int32)), .unset] [(.int (2 : Int32)), (.ref a0)])) t → Steps p.tables e below G0 t := by
    intro t kt
    refine K25 t ?_
    refine XS.aloadN X25.here hx rfl (hb hby d1_32) rfl rfl ?_
    show Steps p.tables e below (T25.setTop (mkF m 33 #[.val (.ref a0), .val (.int (2 : Int32)), .val (.int (2 : Int32)), .unset] [(.ref a0)])) _
    refine XS.iloadN X25.here hx rfl (hb hby d1_33) rfl ?_
    show Steps p.tables e below (T25.setTop (mkF m 34 #[.val (.ref a0), .val (.int (2 : Int32)), .val (.int (2 : Int32)), .unset] [(.int (2 : Int32)), (.ref a0)])) _
    exact kt
  have f27 := (f24.wr W25)
  have f28 := ((f20.ext E22).other W25 (Ne.symm ne_a0_b7))
  have f29 := ((f21.ext E22).other W25 (Ne.symm ne_a0_b14))
  have f30 := (VL22.other W25 (Ne.symm ne_a0_b22))
  obtain ⟨T31, h31, k31, X31, e31, E31, A31, EA31, st31⟩ := newPE X25 hx hZ (hw _ (List.mem_of_getElem? (i := 22) rfl)) e25 (g := (mkF m 34 #[.val (.ref a0), .val (.int (2 : Int32)), .val (.int (2 : Int32)), .unset] [(.int (2 : Int32)), (.ref a0)])) rfl (hb hby d1_34) rfl (by decide) (cap := 2) (by decide) (by decide) (by decide) (by decide) (ad := "[I") (by decide)
  obtain ⟨b31, g31⟩ : ∃ z, z = h25.size := ⟨_, rfl⟩
  rw [← g31] at A31 EA31 st31
  have V31 := Arv.new A31 (by decide)
  have gn31 : n0 ≤ b31 := Nat.le_trans Z25 (Nat.le_of_eq g31.symm)
  have Z31 : n0 ≤ h31.size := Nat.le_trans Z25 E31.1
  have K31 : ∀ t, Steps p.tables e below (T31.setTop (mkF m 36 #[.val (.ref a0), .val (.int (2 : Int32)), .val (.int (2 : Int32)), .unset] [(.ref b31), (.ref a0)])) t → Steps p.tables e below G0 t := fun t kt => K26 t (st31 _ kt)
  have ne_a0_b31 : a0 ≠ b31 := Nat.ne_of_lt (Nat.lt_of_lt_of_le (f27).lt (Nat.le_of_eq g31.symm))
  have ne_b7_b31 : b7 ≠ b31 := Nat.ne_of_lt (Nat.lt_of_lt_of_le (f28).lt (Nat.le_of_eq g31.symm))
  have ne_b14_b31 : b14 ≠ b31 := Nat.ne_of_lt (Nat.lt_of_lt_of_le (f29).lt (Nat.le_of_eq g31.symm))
  have ne_b22_b31 : b22 ≠ b31 := Nat.ne_of_lt (Nat.lt_of_lt_of_le (f30).lt (Nat.le_of_eq g31.symm))
  have VL31 : Arv Z h31 b31 k31 .int (2 : Int32) [(.int (0 : Int32)), (.int (0 : Int32))] (.int (0 : Int32)) := V31.pad (pad_rep [] (.int (0 : Int32)) 2)
  have f32 := ((((((((F_lengths.other W4 (Or.inr (slot_ne (Or.inr (hw _ (List.mem_of_getElem? (i := 24) rfl))) (Or.inr (hw _ (List.mem_of_getElem? (i := 10) rfl))) (by decide) (t := (.array .int)) (t' := .int) (by decide) (by decide)))).ext E7).other W10 (Or.inr (slot_ne (Or.inr (hw _ (List.mem_of_getElem? (i := 24) rfl))) (Or.inr (hw _ (List.mem_of_getElem? (i := 13) rfl))) (by decide) (t := (.array .int)) (t' := (.array .boolean)) (by decide) (by decide)))).ext E14).other W17 (Or.inr (slot_ne (Or.inr (hw _ (List.mem_of_getElem? (i := 24) rfl))) (Or.inr (hw _ (List.mem_of_getElem? (i := 17) rfl))) (by decide) (t := (.array .int)) (t' := (.array (.array .int))) (by decide) (by decide)))).ext E22).other W25 (Or.inr (slot_ne (Or.inr (hw _ (List.mem_of_getElem? (i := 24) rfl))) (Or.inr (hw _ (List.mem_of_getElem? (i := 21) rfl))) (by decide) (t := (.array .int)) (t' := (.array (.array .double))) (by decide) (by decide)))).ext E31)
  have f33 := (f27.ext E31)
  obtain ⟨T34, h34, X34, e34, W34, st34⟩ := putF X31 hx hZ hown (host := "") (Or.inl (hw _ (List.mem_of_getElem? (i := 23) rfl))) Via.refl e31 f32 f33 (Or.inr ⟨(hw _ (List.mem_of_getElem? (i := 24) rfl)), rfl, hnm⟩) (hw _ (List.mem_of_getElem? (i := 1) rfl)) (ty := (.array .int)) (by decide) rfl rfl (g := (mkF m 36 #[.val (.ref a0), .val (.int (2 : Int32)), .val (.int (2 : Int32)), .unset] [(.ref b31), (.ref a0)])) rfl rfl (hb hby d1_36)
  have K34 : ∀ t, Steps p.tables e below (T34.setTop (mkF m 39 #[.val (.ref a0), .val (.int (2 : Int32)), .val (.int (2 : Int32)), .unset] [])) t → Steps p.tables e below G0 t := fun t kt => K31 t (st34 _ kt)
  have Fw34 := (f32).same W34
  have N34 := Fr.snoc X34 N25 gn
  have Z34 : n0 ≤ h34.size := Nat.le_trans Z31 (Keep.of_wr W34).1
  have K35 : ∀ t, Steps p.tables e below (T34.setTop (mkF m 41 #[.val (.ref a0), .val (.int (2 : Int32)), .val (.int (2 : Int32)), .unset] [(.int (2 : Int32)), (.int (2 : Int32))])) t → Steps p.tables e below G0 t := by
    intro t kt
    refine K34 t ?_
    refine XS.iloadN X34.here hx rfl (hb hby d1_39) rfl ?_
    show Steps p.tables e below (T34.setTop (mkF m 40 #[.val (.ref a0), .val (.int (2 : Int32)), .val (.int (2 : Int32)), .unset] [(.int (2 : Int32))])) _
    refine XS.iloadN X34.here hx rfl (hb hby d1_40) rfl ?_
    show Steps p.tables e below (T34.setTop (mkF m 41 #[.val (.ref a0), .val (.int (2 : Int32)), .val (.int (2 : Int32)), .unset] [(.int (2 : Int32)), (.int (2 : Int32))])) _
    exact kt
  obtain ⟨_, _, ⟨T36, L36, k36, n36⟩, -, X36, ⟨Lc36, hQ36, l36, y36, z36⟩, st36⟩ := Jvm.LawKit.callS X34 hx (y := (⟨"java/lang/Math", "min", "(II)I"⟩ : MethodName)) hown (mvT hZ (hw _ (List.mem_of_getElem? (i := 25) rfl))) (mvT hZ (hw _ (List.mem_of_getElem? (i := 26) rfl))) (mvT hZ (hw _ (List.mem_of_getElem? (i := 27) rfl))) (mvT hZ (hw _ (List.mem_of_getElem? (i := 28) rfl))) (by decide) (backOf (W := 0) (rm3 l Z aa hw [] ((2 : Int32)) ((2 : Int32))  h34 n0 Z34 (by decide)) hZ (hw _ (List.mem_of_getElem? (i := 28) rfl)) (hw _ (List.mem_of_getElem? (i := 27) rfl)) (by decide) (by decide)) (g := (mkF m 41 #[.val (.ref a0), .val (.int (2 : Int32)), .val (.int (2 : Int32)), .unset] [(.int (2 : Int32)), (.int (2 : Int32))])) rfl (by rw [hml]; rfl) (argsL := [(.int (2 : Int32)), (.int (2 : Int32))]) (rest := []) (lenOf pd_PIIQI rfl) rfl (by show 2 * 0 + _ ≤ _; exact Nat.le_of_eq rfl) (hb hby d1_41) (fun _ _ => ⟨rfl, e34, (by decide : 4 + 0 ≤ _), (by decide : 8 + 0 ≤ _)⟩)
  dsimp only [Pt.U, Pt.locs, Pt.cells, Pt.slots] at X36 l36 y36 z36 st36 hQ36
  subst l36 y36 z36
  obtain ⟨rfl, N36q, e36⟩ := hQ36
  have N36 := Fr.app N34 N36q
  have K36 : ∀ t, Steps p.tables e below (T36.setTop (mkF m 44 #[.val (.ref a0), .val (.int (2 : Int32)), .val (.int (2 : Int32)), .unset] [(.int (2 : Int32))])) t → Steps p.tables e below G0 t := fun t kt => K35 t (st36 _ kt)
  have K37 : ∀ t, Steps p.tables e below (T36.setTop (mkF m 47 #[.val (.ref a0), .val (.int (2 : Int32)), .val (.int (2 : Int32)), .val (.int (2 : Int32))] [(.int (2 : Int32)), (.ref a0)])) t → Steps p.tables e below G0 t := by
    intro t kt
    refine K36 t ?_
    refine XS.istoreN X36.here hx rfl (hb hby d1_44) rfl (l' := #[.val (.ref a0), .val (.int (2 : Int32)), .val (.int (2 : Int32)), .val (.int (2 : Int32))]) rfl ?_
    show Steps p.tables e below (T36.setTop (mkF m 45 #[.val (.ref a0), .val (.int (2 : Int32)), .val (.int (2 : Int32)), .val (.int (2 : Int32))] [])) _
    refine XS.aloadN X36.here hx rfl (hb hby d1_45) rfl rfl ?_
    show Steps p.tables e below (T36.setTop (mkF m 46 #[.val (.ref a0), .val (.int (2 : Int32)), .val (.int (2 : Int32)), .val (.int (2 : Int32))] [(.ref a0)])) _
    refine XS.iloadN X36.here hx rfl (hb hby d1_46) rfl ?_
    show Steps p.tables e below (T36.setTop (mkF m 47 #[.val (.ref a0), .val (.int (2 : Int32)), .val (.int (2 : Int32)), .val (.int (2 : Int32))] [(.int (2 : Int32)), (.ref a0)])) _
    exact kt
  have f38 := (f33.wr W34)
  have f39 := ((f28.ext E31).other W34 (Ne.symm ne_a0_b7))
  have f40 := ((f29.ext E31).other W34 (Ne.symm ne_a0_b14))
  have f41 := ((f30.ext E31).other W34 (Ne.symm ne_a0_b22))
  have f42 := (VL31.other W34 (Ne.symm ne_a0_b31))
  obtain ⟨T43, h43, k43, X43, e43, E43, A43, EA43, st43⟩ := newPE X36 hx hZ (hw _ (List.mem_of_getElem? (i := 22) rfl)) e36 (g := (mkF m 47 #[.val (.ref a0), .val (.int (2 : Int32)), .val (.int (2 : Int32)), .val (.int (2 : Int32))] [(.int (2 : Int32)), (.ref a0)])) rfl (hb hby d1_47) rfl (by decide) (cap := 2) (by decide) (by decide) (by decide) (by decide) (ad := "[I") (by decide)
  obtain ⟨b43, g43⟩ : ∃ z, z = h34.size := ⟨_, rfl⟩
  rw [← g43] at A43 EA43 st43
  have V43 := Arv.new A43 (by decide)
  have gn43 : n0 ≤ b43 := Nat.le_trans Z34 (Nat.le_of_eq g43.symm)
  have Z43 : n0 ≤ h43.size := Nat.le_trans Z34 E43.1
  have K43 : ∀ t, Steps p.tables e below (T43.setTop (mkF m 49 #[.val (.ref a0), .val (.int (2 : Int32)), .val (.int (2 : Int32)), .val (.int (2 : Int32))] [(.ref b43), (.ref a0)])) t → Steps p.tables e below G0 t := fun t kt => K37 t (st43 _ kt)
  have ne_a0_b43 : a0 ≠ b43 := Nat.ne_of_lt (Nat.lt_of_lt_of_le (f38).lt (Nat.le_of_eq g43.symm))
  have ne_b7_b43 : b7 ≠ b43 := Nat.ne_of_lt (Nat.lt_of_lt_of_le (f39).lt (Nat.le_of_eq g43.symm))
  have ne_b14_b43 : b14 ≠ b43 := Nat.ne_of_lt (Nat.lt_of_lt_of_le (f40).lt (Nat.le_of_eq g43.symm))
  have ne_b22_b43 : b22 ≠ b43 := Nat.ne_of_lt (Nat.lt_of_lt_of_le (f41).lt (Nat.le_of_eq g43.symm))
  have ne_b31_b43 : b31 ≠ b43 := Nat.ne_of_lt (Nat.lt_of_lt_of_le (f42).lt (Nat.le_of_eq g43.symm))
  have VL43 : Arv Z h43 b43 k43 .int (2 : Int32) [(.int (0 : Int32)), (.int (0 : Int32))] (.int (0 : Int32)) := V43.pad (pad_rep [] (.int (0 : Int32)) 2)
  have f44 := ((((((((((F_pivotEquation.other W4 (Or.inr (slot_ne (Or.inr (hw _ (List.mem_of_getElem? (i := 30) rfl))) (Or.inr (hw _ (List.mem_of_getElem? (i := 10) rfl))) (by decide) (t := (.array .int)) (t' := .int) (by decide) (by decide)))).ext E7).other W10 (Or.inr (slot_ne (Or.inr (hw _ (List.mem_of_getElem? (i := 30) rfl))) (Or.inr (hw _ (List.mem_of_getElem? (i := 13) rfl))) (by decide) (t := (.array .int)) (t' := (.array .boolean)) (by decide) (by decide)))).ext E14).other W17 (Or.inr (slot_ne (Or.inr (hw _ (List.mem_of_getElem? (i := 30) rfl))) (Or.inr (hw _ (List.mem_of_getElem? (i := 17) rfl))) (by decide) (t := (.array .int)) (t' := (.array (.array .int))) (by decide) (by decide)))).ext E22).other W25 (Or.inr (slot_ne (Or.inr (hw _ (List.mem_of_getElem? (i := 30) rfl))) (Or.inr (hw _ (List.mem_of_getElem? (i := 21) rfl))) (by decide) (t := (.array .int)) (t' := (.array (.array .double))) (by decide) (by decide)))).ext E31).other W34 (Or.inr (slot_ne (Or.inr (hw _ (List.mem_of_getElem? (i := 30) rfl))) (Or.inr (hw _ (List.mem_of_getElem? (i := 24) rfl))) (by decide) (t := (.array .int)) (t' := (.array .int)) (by decide) (by decide)))).ext E43)
  have f45 := (f38.ext E43)
  obtain ⟨T46, h46, X46, e46, W46, st46⟩ := putF X43 hx hZ hown (host := "") (Or.inl (hw _ (List.mem_of_getElem? (i := 29) rfl))) Via.refl e43 f44 f45 (Or.inr ⟨(hw _ (List.mem_of_getElem? (i := 30) rfl)), rfl, hnm⟩) (hw _ (List.mem_of_getElem? (i := 1) rfl)) (ty := (.array .int)) (by decide) rfl rfl (g := (mkF m 49 #[.val (.ref a0), .val (.int (2 : Int32)), .val (.int (2 : Int32)), .val (.int (2 : Int32))] [(.ref b43), (.ref a0)])) rfl rfl (hb hby d1_49)
  have K46 : ∀ t, Steps p.tables e below (T46.setTop (mkF m 52 #[.val (.ref a0), .val (.int (2 : Int32)), .val (.int (2 : Int32)), .val (.int (2 : Int32))] [])) t → Steps p.tables e below G0 t := fun t kt => K43 t (st46 _ kt)
  have Fw46 := (f44).same W46
  have N46 := Fr.snoc X46 N36 gn
  have Z46 : n0 ≤ h46.size := Nat.le_trans Z43 (Keep.of_wr W46).1
  have K47 : ∀ t, Steps p.tables e below (T46.setTop (mkF m 54 #[.val (.ref a0), .val (.int (2 : Int32)), .val (.int (2 : Int32)), .val (.int (2 : Int32))] [(.int (2 : Int32)), (.ref a0)])) t → Steps p.tables e below G0 t := by
    intro t kt
    refine K46 t ?_
    refine XS.aloadN X46.here hx rfl (hb hby d1_52) rfl rfl ?_
    show Steps p.tables e below (T46.setTop (mkF m 53 #[.val (.ref a0), .val (.int (2 : Int32)), .val (.int (2 : Int32)), .val (.int (2 : Int32))] [(.ref a0)])) _
    refine XS.iloadN X46.here hx rfl (hb hby d1_53) rfl ?_
    show Steps p.tables e below (T46.setTop (mkF m 54 #[.val (.ref a0), .val (.int (2 : Int32)), .val (.int (2 : Int32)), .val (.int (2 : Int32))] [(.int (2 : Int32)), (.ref a0)])) _
    exact kt
  have f48 := (f45.wr W46)
  have f49 := ((f39.ext E43).other W46 (Ne.symm ne_a0_b7))
  have f50 := ((f40.ext E43).other W46 (Ne.symm ne_a0_b14))
  have f51 := ((f41.ext E43).other W46 (Ne.symm ne_a0_b22))
  have f52 := ((f42.ext E43).other W46 (Ne.symm ne_a0_b31))
  have f53 := (VL43.other W46 (Ne.symm ne_a0_b43))
  obtain ⟨T54, h54, k54, X54, e54, E54, A54, EA54, O54, st54⟩ := newRA X46 hx hZ hown (C := "[I") (ty := .int) (by decide) (hw _ (List.mem_of_getElem? (i := 14) rfl)) (hw _ (List.mem_of_getElem? (i := 15) rfl)) e46 (g := (mkF m 54 #[.val (.ref a0), .val (.int (2 : Int32)), .val (.int (2 : Int32)), .val (.int (2 : Int32))] [(.int (2 : Int32)), (.ref a0)])) rfl (hb hby d1_54) rfl (by decide) (cap := 2) (by decide) (by decide) (by decide) (by decide) (ad := "[[I") (by decide)
  obtain ⟨b54, g54⟩ : ∃ z, z = h46.size := ⟨_, rfl⟩
  rw [← g54] at A54 EA54 st54
  have V54 := Arv.new A54 (by decide)
  have gn54 : n0 ≤ b54 := Nat.le_trans Z46 (Nat.le_of_eq g54.symm)
  have Z54 : n0 ≤ h54.size := Nat.le_trans Z46 E54.1
  have K54 : ∀ t, Steps p.tables e below (T54.setTop (mkF m 57 #[.val (.ref a0), .val (.int (2 : Int32)), .val (.int (2 : Int32)), .val (.int (2 : Int32))] [(.ref b54), (.ref a0)])) t → Steps p.tables e below G0 t := fun t kt => K47 t (st54 _ kt)
  have ne_a0_b54 : a0 ≠ b54 := Nat.ne_of_lt (Nat.lt_of_lt_of_le (f48).lt (Nat.le_of_eq g54.symm))
  have ne_b7_b54 : b7 ≠ b54 := Nat.ne_of_lt (Nat.lt_of_lt_of_le (f49).lt (Nat.le_of_eq g54.symm))
  have ne_b14_b54 : b14 ≠ b54 := Nat.ne_of_lt (Nat.lt_of_lt_of_le (f50).lt (Nat.le_of_eq g54.symm))
  have ne_b22_b54 : b22 ≠ b54 := Nat.ne_of_lt (Nat.lt_of_lt_of_le (f51).lt (Nat.le_of_eq g54.symm))
  have ne_b31_b54 : b31 ≠ b54 := Nat.ne_of_lt (Nat.lt_of_lt_of_le (f52).lt (Nat.le_of_eq g54.symm))
  have ne_b43_b54 : b43 ≠ b54 := Nat.ne_of_lt (Nat.lt_of_lt_of_le (f53).lt (Nat.le_of_eq g54.symm))
  have VL54 : Arv Z h54 b54 k54 (.array .int) (2 : Int32) [.null, .null] .null := V54.pad (pad_rep [] .null 2)
  have f55 := ((((((((((((F_pivotUnknowns.other W4 (Or.inr (slot_ne (Or.inr (hw _ (List.mem_of_getElem? (i := 32) rfl))) (Or.inr (hw _ (List.mem_of_getElem? (i := 10) rfl))) (by decide) (t := (.array (.array .int))) (t' := .int) (by decide) (by decide)))).ext E7).other W10 (Or.inr (slot_ne (Or.inr (hw _ (List.mem_of_getElem? (i := 32) rfl))) (Or.inr (hw _ (List.mem_of_getElem? (i := 13) rfl))) (by decide) (t := (.array (.array .int))) (t' := (.array .boolean)) (by decide) (by decide)))).ext E14).other W17 (Or.inr (slot_ne (Or.inr (hw _ (List.mem_of_getElem? (i := 32) rfl))) (Or.inr (hw _ (List.mem_of_getElem? (i := 17) rfl))) (by decide) (t := (.array (.array .int))) (t' := (.array (.array .int))) (by decide) (by decide)))).ext E22).other W25 (Or.inr (slot_ne (Or.inr (hw _ (List.mem_of_getElem? (i := 32) rfl))) (Or.inr (hw _ (List.mem_of_getElem? (i := 21) rfl))) (by decide) (t := (.array (.array .int))) (t' := (.array (.array .double))) (by decide) (by decide)))).ext E31).other W34 (Or.inr (slot_ne (Or.inr (hw _ (List.mem_of_getElem? (i := 32) rfl))) (Or.inr (hw _ (List.mem_of_getElem? (i := 24) rfl))) (by decide) (t := (.array (.array .int))) (t' := (.array .int)) (by decide) (by decide)))).ext E43).other W46 (Or.inr (slot_ne (Or.inr (hw _ (List.mem_of_getElem? (i := 32) rfl))) (Or.inr (hw _ (List.mem_of_getElem? (i := 30) rfl))) (by decide) (t := (.array (.array .int))) (t' := (.array .int)) (by decide) (by decide)))).ext E54)
  have f56 := (f48.ext E54)
  obtain ⟨T57, h57, X57, e57, W57, st57⟩ := putF X54 hx hZ hown (host := "") (Or.inl (hw _ (List.mem_of_getElem? (i := 31) rfl))) Via.refl e54 f55 f56 (Or.inr ⟨(hw _ (List.mem_of_getElem? (i := 32) rfl)), rfl, hnm⟩) (hw _ (List.mem_of_getElem? (i := 1) rfl)) (ty := (.array (.array .int))) (by decide) rfl rfl (g := (mkF m 57 #[.val (.ref a0), .val (.int (2 : Int32)), .val (.int (2 : Int32)), .val (.int (2 : Int32))] [(.ref b54), (.ref a0)])) rfl rfl (hb hby d1_57)
  have K57 : ∀ t, Steps p.tables e below (T57.setTop (mkF m 60 #[.val (.ref a0), .val (.int (2 : Int32)), .val (.int (2 : Int32)), .val (.int (2 : Int32))] [])) t → Steps p.tables e below G0 t := fun t kt => K54 t (st57 _ kt)
  have Fw57 := (f55).same W57
  have N57 := Fr.snoc X57 N46 gn
  have Z57 : n0 ≤ h57.size := Nat.le_trans Z54 (Keep.of_wr W57).1
  have K58 : ∀ t, Steps p.tables e below (T57.setTop (mkF m 62 #[.val (.ref a0), .val (.int (2 : Int32)), .val (.int (2 : Int32)), .val (.int (2 : Int32))] [(.int (2 : Int32)), (.ref a0)])) t → Steps p.tables e below G0 t := by
    intro t kt
    refine K57 t ?_
    refine XS.aloadN X57.here hx rfl (hb hby d1_60) rfl rfl ?_
    show Steps p.tables e below (T57.setTop (mkF m 61 #[.val (.ref a0), .val (.int (2 : Int32)), .val (.int (2 : Int32)), .val (.int (2 : Int32))] [(.ref a0)])) _
    refine XS.iloadN X57.here hx rfl (hb hby d1_61) rfl ?_
    show Steps p.tables e below (T57.setTop (mkF m 62 #[.val (.ref a0), .val (.int (2 : Int32)), .val (.int (2 : Int32)), .val (.int (2 : Int32))] [(.int (2 : Int32)), (.ref a0)])) _
    exact kt
  have f59 := (f56.wr W57)
  have f60 := ((f49.ext E54).other W57 (Ne.symm ne_a0_b7))
  have f61 := ((f50.ext E54).other W57 (Ne.symm ne_a0_b14))
  have f62 := ((f51.ext E54).other W57 (Ne.symm ne_a0_b22))
  have f63 := ((f52.ext E54).other W57 (Ne.symm ne_a0_b31))
  have f64 := ((f53.ext E54).other W57 (Ne.symm ne_a0_b43))
  have f65 := (VL54.other W57 (Ne.symm ne_a0_b54))
  obtain ⟨T66, h66, k66, X66, e66, E66, A66, EA66, O66, st66⟩ := newRA X57 hx hZ hown (C := "[D") (ty := .double) (by decide) (hw _ (List.mem_of_getElem? (i := 18) rfl)) (hw _ (List.mem_of_getElem? (i := 19) rfl)) e57 (g := (mkF m 62 #[.val (.ref a0), .val (.int (2 : Int32)), .val (.int (2 : Int32)), .val (.int (2 : Int32))] [(.int (2 : Int32)), (.ref a0)])) rfl (hb hby d1_62) rfl (by decide) (cap := 2) (by decide) (by decide) (by decide) (by decide) (ad := "[[D") (by decide)
  obtain ⟨b66, g66⟩ : ∃ z, z = h57.size := ⟨_, rfl⟩
  rw [← g66] at A66 EA66 st66
  have V66 := Arv.new A66 (by decide)
  have gn66 : n0 ≤ b66 := Nat.le_trans Z57 (Nat.le_of_eq g66.symm)
  have Z66 : n0 ≤ h66.size := Nat.le_trans Z57 E66.1
  have K66 : ∀ t, Steps p.tables e below (T66.setTop (mkF m 65 #[.val (.ref a0), .val (.int (2 : Int32)), .val (.int (2 : Int32)), .val (.int (2 : Int32))] [(.ref b66), (.ref a0)])) t → Steps p.tables e below G0 t := fun t kt => K58 t (st66 _ kt)
  have ne_a0_b66 : a0 ≠ b66 := Nat.ne_of_lt (Nat.lt_of_lt_of_le (f59).lt (Nat.le_of_eq g66.symm))
  have ne_b7_b66 : b7 ≠ b66 := Nat.ne_of_lt (Nat.lt_of_lt_of_le (f60).lt (Nat.le_of_eq g66.symm))
  have ne_b14_b66 : b14 ≠ b66 := Nat.ne_of_lt (Nat.lt_of_lt_of_le (f61).lt (Nat.le_of_eq g66.symm))
  have ne_b22_b66 : b22 ≠ b66 := Nat.ne_of_lt (Nat.lt_of_lt_of_le (f62).lt (Nat.le_of_eq g66.symm))
  have ne_b31_b66 : b31 ≠ b66 := Nat.ne_of_lt (Nat.lt_of_lt_of_le (f63).lt (Nat.le_of_eq g66.symm))
  have ne_b43_b66 : b43 ≠ b66 := Nat.ne_of_lt (Nat.lt_of_lt_of_le (f64).lt (Nat.le_of_eq g66.symm))
  have ne_b54_b66 : b54 ≠ b66 := Nat.ne_of_lt (Nat.lt_of_lt_of_le (f65).lt (Nat.le_of_eq g66.symm))
  have VL66 : Arv Z h66 b66 k66 (.array .double) (2 : Int32) [.null, .null] .null := V66.pad (pad_rep [] .null 2)
  have f67 := ((((((((((((((F_pivotCoefficients.other W4 (Or.inr (slot_ne (Or.inr (hw _ (List.mem_of_getElem? (i := 34) rfl))) (Or.inr (hw _ (List.mem_of_getElem? (i := 10) rfl))) (by decide) (t := (.array (.array .double))) (t' := .int) (by decide) (by decide)))).ext E7).other W10 (Or.inr (slot_ne (Or.inr (hw _ (List.mem_of_getElem? (i := 34) rfl))) (Or.inr (hw _ (List.mem_of_getElem? (i := 13) rfl))) (by decide) (t := (.array (.array .double))) (t' := (.array .boolean)) (by decide) (by decide)))).ext E14).other W17 (Or.inr (slot_ne (Or.inr (hw _ (List.mem_of_getElem? (i := 34) rfl))) (Or.inr (hw _ (List.mem_of_getElem? (i := 17) rfl))) (by decide) (t := (.array (.array .double))) (t' := (.array (.array .int))) (by decide) (by decide)))).ext E22).other W25 (Or.inr (slot_ne (Or.inr (hw _ (List.mem_of_getElem? (i := 34) rfl))) (Or.inr (hw _ (List.mem_of_getElem? (i := 21) rfl))) (by decide) (t := (.array (.array .double))) (t' := (.array (.array .double))) (by decide) (by decide)))).ext E31).other W34 (Or.inr (slot_ne (Or.inr (hw _ (List.mem_of_getElem? (i := 34) rfl))) (Or.inr (hw _ (List.mem_of_getElem? (i := 24) rfl))) (by decide) (t := (.array (.array .double))) (t' := (.array .int)) (by decide) (by decide)))).ext E43).other W46 (Or.inr (slot_ne (Or.inr (hw _ (List.mem_of_getElem? (i := 34) rfl))) (Or.inr (hw _ (List.mem_of_getElem? (i := 30) rfl))) (by decide) (t := (.array (.array .double))) (t' := (.array .int)) (by decide) (by decide)))).ext E54).other W57 (Or.inr (slot_ne (Or.inr (hw _ (List.mem_of_getElem? (i := 34) rfl))) (Or.inr (hw _ (List.mem_of_getElem? (i := 32) rfl))) (by decide) (t := (.array (.array .double))) (t' := (.array (.array .int))) (by decide) (by decide)))).ext E66)
  have f68 := (f59.ext E66)
  obtain ⟨T69, h69, X69, e69, W69, st69⟩ := putF X66 hx hZ hown (host := "") (Or.inl (hw _ (List.mem_of_getElem? (i := 33) rfl))) Via.refl e66 f67 f68 (Or.inr ⟨(hw _ (List.mem_of_getElem? (i := 34) rfl)), rfl, hnm⟩) (hw _ (List.mem_of_getElem? (i := 1) rfl)) (ty := (.array (.array .double))) (by decide) rfl rfl (g := (mkF m 65 #[.val (.ref a0), .val (.int (2 : Int32)), .val (.int (2 : Int32)), .val (.int (2 : Int32))] [(.ref b66), (.ref a0)])) rfl rfl (hb hby d1_65)
  have K69 : ∀ t, Steps p.tables e below (T69.setTop (mkF m 68 #[.val (.ref a0), .val (.int (2 : Int32)), .val (.int (2 : Int32)), .val (.int (2 : Int32))] [])) t → Steps p.tables e below G0 t := fun t kt => K66 t (st69 _ kt)
  have Fw69 := (f67).same W69
  have N69 := Fr.snoc X69 N57 gn
  have Z69 : n0 ≤ h69.size := Nat.le_trans Z66 (Keep.of_wr W69).1
  have KQ70_0 := Keep.refl h0 [a0]
  have KQ70_1 := KQ70_0.wr W4 (Or.inl (List.mem_of_getElem? (i := 0) rfl))
  have sz70_7 := Nat.le_trans KQ70_1.1 (Nat.le_of_eq g7.symm)
  have KQ70_2 := KQ70_1.ext E7
  have KQ70_3 := KQ70_2.wr W10 (Or.inl (List.mem_of_getElem? (i := 0) rfl))
  have sz70_14 := Nat.le_trans KQ70_3.1 (Nat.le_of_eq g14.symm)
  have KQ70_4 := KQ70_3.ext E14
  have KQ70_5 := KQ70_4.wr W17 (Or.inl (List.mem_of_getElem? (i := 0) rfl))
  have sz70_22 := Nat.le_trans KQ70_5.1 (Nat.le_of_eq g22.symm)
  have KQ70_6 := KQ70_5.ext E22
  have KQ70_7 := KQ70_6.wr W25 (Or.inl (List.mem_of_getElem? (i := 0) rfl))
  have sz70_31 := Nat.le_trans KQ70_7.1 (Nat.le_of_eq g31.symm)
  have KQ70_8 := KQ70_7.ext E31
  have KQ70_9 := KQ70_8.wr W34 (Or.inl (List.mem_of_getElem? (i := 0) rfl))
  have sz70_43 := Nat.le_trans KQ70_9.1 (Nat.le_of_eq g43.symm)
  have KQ70_10 := KQ70_9.ext E43
  have KQ70_11 := KQ70_10.wr W46 (Or.inl (List.mem_of_getElem? (i := 0) rfl))
  have sz70_54 := Nat.le_trans KQ70_11.1 (Nat.le_of_eq g54.symm)
  have KQ70_12 := KQ70_11.ext E54
  have KQ70_13 := KQ70_12.wr W57 (Or.inl (List.mem_of_getElem? (i := 0) rfl))
  have sz70_66 := Nat.le_trans KQ70_13.1 (Nat.le_of_eq g66.symm)
  have KQ70_14 := KQ70_13.ext E66
  have KQ70_15 := KQ70_14.wr W69 (Or.inl (List.mem_of_getElem? (i := 0) rfl))
  have f71 := (f68.wr W69)
  have f72 := ((((((((((((((Fw4.ext E7).other W10 (Or.inr (slot_ne (Or.inr (hw _ (List.mem_of_getElem? (i := 10) rfl))) (Or.inr (hw _ (List.mem_of_getElem? (i := 13) rfl))) (by decide) (t := .int) (t' := (.array .boolean)) (by decide) (by decide)))).ext E14).other W17 (Or.inr (slot_ne (Or.inr (hw _ (List.mem_of_getElem? (i := 10) rfl))) (Or.inr (hw _ (List.mem_of_getElem? (i := 17) rfl))) (by decide) (t := .int) (t' := (.array (.array .int))) (by decide) (by decide)))).ext E22).other W25 (Or.inr (slot_ne (Or.inr (hw _ (List.mem_of_getElem? (i := 10) rfl))) (Or.inr (hw _ (List.mem_of_getElem? (i := 21) rfl))) (by decide) (t := .int) (t' := (.array (.array .double))) (by decide) (by decide)))).ext E31).other W34 (Or.inr (slot_ne (Or.inr (hw _ (List.mem_of_getElem? (i := 10) rfl))) (Or.inr (hw _ (List.mem_of_getElem? (i := 24) rfl))) (by decide) (t := .int) (t' := (.array .int)) (by decide) (by decide)))).ext E43).other W46 (Or.inr (slot_ne (Or.inr (hw _ (List.mem_of_getElem? (i := 10) rfl))) (Or.inr (hw _ (List.mem_of_getElem? (i := 30) rfl))) (by decide) (t := .int) (t' := (.array .int)) (by decide) (by decide)))).ext E54).other W57 (Or.inr (slot_ne (Or.inr (hw _ (List.mem_of_getElem? (i := 10) rfl))) (Or.inr (hw _ (List.mem_of_getElem? (i := 32) rfl))) (by decide) (t := .int) (t' := (.array (.array .int))) (by decide) (by decide)))).ext E66).other W69 (Or.inr (slot_ne (Or.inr (hw _ (List.mem_of_getElem? (i := 10) rfl))) (Or.inr (hw _ (List.mem_of_getElem? (i := 34) rfl))) (by decide) (t := .int) (t' := (.array (.array .double))) (by decide) (by decide))))
  have f73 := (((((((((((((((F_pivotCount.other W4 (Or.inr (slot_ne (Or.inl (hw _ (List.mem_of_getElem? (i := 42) rfl))) (Or.inr (hw _ (List.mem_of_getElem? (i := 10) rfl))) (by decide) (t := .int) (t' := .int) (by decide) (by decide)))).ext E7).other W10 (Or.inr (slot_ne (Or.inl (hw _ (List.mem_of_getElem? (i := 42) rfl))) (Or.inr (hw _ (List.mem_of_getElem? (i := 13) rfl))) (by decide) (t := .int) (t' := (.array .boolean)) (by decide) (by decide)))).ext E14).other W17 (Or.inr (slot_ne (Or.inl (hw _ (List.mem_of_getElem? (i := 42) rfl))) (Or.inr (hw _ (List.mem_of_getElem? (i := 17) rfl))) (by decide) (t := .int) (t' := (.array (.array .int))) (by decide) (by decide)))).ext E22).other W25 (Or.inr (slot_ne (Or.inl (hw _ (List.mem_of_getElem? (i := 42) rfl))) (Or.inr (hw _ (List.mem_of_getElem? (i := 21) rfl))) (by decide) (t := .int) (t' := (.array (.array .double))) (by decide) (by decide)))).ext E31).other W34 (Or.inr (slot_ne (Or.inl (hw _ (List.mem_of_getElem? (i := 42) rfl))) (Or.inr (hw _ (List.mem_of_getElem? (i := 24) rfl))) (by decide) (t := .int) (t' := (.array .int)) (by decide) (by decide)))).ext E43).other W46 (Or.inr (slot_ne (Or.inl (hw _ (List.mem_of_getElem? (i := 42) rfl))) (Or.inr (hw _ (List.mem_of_getElem? (i := 30) rfl))) (by decide) (t := .int) (t' := (.array .int)) (by decide) (by decide)))).ext E54).other W57 (Or.inr (slot_ne (Or.inl (hw _ (List.mem_of_getElem? (i := 42) rfl))) (Or.inr (hw _ (List.mem_of_getElem? (i := 32) rfl))) (by decide) (t := .int) (t' := (.array (.array .int))) (by decide) (by decide)))).ext E66).other W69 (Or.inr (slot_ne (Or.inl (hw _ (List.mem_of_getElem? (i := 42) rfl))) (Or.inr (hw _ (List.mem_of_getElem? (i := 34) rfl))) (by decide) (t := .int) (t' := (.array (.array .double))) (by decide) (by decide))))
  have f74 := (((((((((((((((F_reductions.other W4 (Or.inr (slot_ne (Or.inl (hw _ (List.mem_of_getElem? (i := 51) rfl))) (Or.inr (hw _ (List.mem_of_getElem? (i := 10) rfl))) (by decide) (t := .long) (t' := .int) (by decide) (by decide)))).ext E7).other W10 (Or.inr (slot_ne (Or.inl (hw _ (List.mem_of_getElem? (i := 51) rfl))) (Or.inr (hw _ (List.mem_of_getElem? (i := 13) rfl))) (by decide) (t := .long) (t' := (.array .boolean)) (by decide) (by decide)))).ext E14).other W17 (Or.inr (slot_ne (Or.inl (hw _ (List.mem_of_getElem? (i := 51) rfl))) (Or.inr (hw _ (List.mem_of_getElem? (i := 17) rfl))) (by decide) (t := .long) (t' := (.array (.array .int))) (by decide) (by decide)))).ext E22).other W25 (Or.inr (slot_ne (Or.inl (hw _ (List.mem_of_getElem? (i := 51) rfl))) (Or.inr (hw _ (List.mem_of_getElem? (i := 21) rfl))) (by decide) (t := .long) (t' := (.array (.array .double))) (by decide) (by decide)))).ext E31).other W34 (Or.inr (slot_ne (Or.inl (hw _ (List.mem_of_getElem? (i := 51) rfl))) (Or.inr (hw _ (List.mem_of_getElem? (i := 24) rfl))) (by decide) (t := .long) (t' := (.array .int)) (by decide) (by decide)))).ext E43).other W46 (Or.inr (slot_ne (Or.inl (hw _ (List.mem_of_getElem? (i := 51) rfl))) (Or.inr (hw _ (List.mem_of_getElem? (i := 30) rfl))) (by decide) (t := .long) (t' := (.array .int)) (by decide) (by decide)))).ext E54).other W57 (Or.inr (slot_ne (Or.inl (hw _ (List.mem_of_getElem? (i := 51) rfl))) (Or.inr (hw _ (List.mem_of_getElem? (i := 32) rfl))) (by decide) (t := .long) (t' := (.array (.array .int))) (by decide) (by decide)))).ext E66).other W69 (Or.inr (slot_ne (Or.inl (hw _ (List.mem_of_getElem? (i := 51) rfl))) (Or.inr (hw _ (List.mem_of_getElem? (i := 34) rfl))) (by decide) (t := .long) (t' := (.array (.array .double))) (by decide) (by decide))))
  have f75 := ((((((((((Fw17.ext E22).other W25 (Or.inr (slot_ne (Or.inr (hw _ (List.mem_of_getElem? (i := 17) rfl))) (Or.inr (hw _ (List.mem_of_getElem? (i := 21) rfl))) (by decide) (t := (.array (.array .int))) (t' := (.array (.array .double))) (by decide) (by decide)))).ext E31).other W34 (Or.inr (slot_ne (Or.inr (hw _ (List.mem_of_getElem? (i := 17) rfl))) (Or.inr (hw _ (List.mem_of_getElem? (i := 24) rfl))) (by decide) (t := (.array (.array .int))) (t' := (.array .int)) (by decide) (by decide)))).ext E43).other W46 (Or.inr (slot_ne (Or.inr (hw _ (List.mem_of_getElem? (i := 17) rfl))) (Or.inr (hw _ (List.mem_of_getElem? (i := 30) rfl))) (by decide) (t := (.array (.array .int))) (t' := (.array .int)) (by decide) (by decide)))).ext E54).other W57 (Or.inr (slot_ne (Or.inr (hw _ (List.mem_of_getElem? (i := 17) rfl))) (Or.inr (hw _ (List.mem_of_getElem? (i := 32) rfl))) (by decide) (t := (.array (.array .int))) (t' := (.array (.array .int))) (by decide) (by decide)))).ext E66).other W69 (Or.inr (slot_ne (Or.inr (hw _ (List.mem_of_getElem? (i := 17) rfl))) (Or.inr (hw _ (List.mem_of_getElem? (i := 34) rfl))) (by decide) (t := (.array (.array .int))) (t' := (.array (.array .double))) (by decide) (by decide))))
  have f76 := ((((((((Fw25.ext E31).other W34 (Or.inr (slot_ne (Or.inr (hw _ (List.mem_of_getElem? (i := 21) rfl))) (Or.inr (hw _ (List.mem_of_getElem? (i := 24) rfl))) (by decide) (t := (.array (.array .double))) (t' := (.array .int)) (by decide) (by decide)))).ext E43).other W46 (Or.inr (slot_ne (Or.inr (hw _ (List.mem_of_getElem? (i := 21) rfl))) (Or.inr (hw _ (List.mem_of_getElem? (i := 30) rfl))) (by decide) (t := (.array (.array .double))) (t' := (.array .int)) (by decide) (by decide)))).ext E54).other W57 (Or.inr (slot_ne (Or.inr (hw _ (List.mem_of_getElem? (i := 21) rfl))) (Or.inr (hw _ (List.mem_of_getElem? (i := 32) rfl))) (by decide) (t := (.array (.array .double))) (t' := (.array (.array .int))) (by decide) (by decide)))).ext E66).other W69 (Or.inr (slot_ne (Or.inr (hw _ (List.mem_of_getElem? (i := 21) rfl))) (Or.inr (hw _ (List.mem_of_getElem? (i := 34) rfl))) (by decide) (t := (.array (.array .double))) (t' := (.array (.array .double))) (by decide) (by decide))))
  have f77 := ((((((Fw34.ext E43).other W46 (Or.inr (slot_ne (Or.inr (hw _ (List.mem_of_getElem? (i := 24) rfl))) (Or.inr (hw _ (List.mem_of_getElem? (i := 30) rfl))) (by decide) (t := (.array .int)) (t' := (.array .int)) (by decide) (by decide)))).ext E54).other W57 (Or.inr (slot_ne (Or.inr (hw _ (List.mem_of_getElem? (i := 24) rfl))) (Or.inr (hw _ (List.mem_of_getElem? (i := 32) rfl))) (by decide) (t := (.array .int)) (t' := (.array (.array .int))) (by decide) (by decide)))).ext E66).other W69 (Or.inr (slot_ne (Or.inr (hw _ (List.mem_of_getElem? (i := 24) rfl))) (Or.inr (hw _ (List.mem_of_getElem? (i := 34) rfl))) (by decide) (t := (.array .int)) (t' := (.array (.array .double))) (by decide) (by decide))))
  have f78 := ((((Fw46.ext E54).other W57 (Or.inr (slot_ne (Or.inr (hw _ (List.mem_of_getElem? (i := 30) rfl))) (Or.inr (hw _ (List.mem_of_getElem? (i := 32) rfl))) (by decide) (t := (.array .int)) (t' := (.array (.array .int))) (by decide) (by decide)))).ext E66).other W69 (Or.inr (slot_ne (Or.inr (hw _ (List.mem_of_getElem? (i := 30) rfl))) (Or.inr (hw _ (List.mem_of_getElem? (i := 34) rfl))) (by decide) (t := (.array .int)) (t' := (.array (.array .double))) (by decide) (by decide))))
  have f79 := ((Fw57.ext E66).other W69 (Or.inr (slot_ne (Or.inr (hw _ (List.mem_of_getElem? (i := 32) rfl))) (Or.inr (hw _ (List.mem_of_getElem? (i := 34) rfl))) (by decide) (t := (.array (.array .int))) (t' := (.array (.array .double))) (by decide) (by decide))))
  have f80 := ((f61.ext E66).other W69 (Ne.symm ne_a0_b14))
  have f81 := ((f62.ext E66).other W69 (Ne.symm ne_a0_b22))
  have f82 := ((f63.ext E66).other W69 (Ne.symm ne_a0_b31))
  have f83 := ((f64.ext E66).other W69 (Ne.symm ne_a0_b43))
  have f84 := ((f65.ext E66).other W69 (Ne.symm ne_a0_b54))
  have f85 := (VL66.other W69 (Ne.symm ne_a0_b66))
  obtain ⟨fs, hr, hrun, hended, hW, hsame⟩ := X69.leave (v := none) (fun _ => rfl)
  refine ⟨_, _, ?_, hrun, hended, _, _, rfl, ?_, ⟨_, rfl⟩, hW, hsame.mono (by decide) (by decide)⟩
  · rw [← hG0]
    refine K69 _ ?_
    exact X69.returnOut hx Bd.returns (hb hby d1_68) hr
  · show Q1 Z a0 u_unknownCount u_determined u_reducedBy u_multipliers u_lengths u_pivotEquation u_pivotUnknowns u_pivotCoefficients h0 n0 _ T69.heap _
    rw [e69]
    exact ⟨rfl, N69, KQ70_15, b14, b22, b31, b43, b54, b66, k14, k22, k31, k43, k54, k66, ⟨gn, gn14, gn22, gn31, gn43, gn54, gn66, ne_a0_b14, ne_a0_b22, ne_a0_b31, ne_a0_b43, ne_a0_b54, ne_a0_b66, ne_b14_b22, ne_b14_b31, ne_b14_b43, ne_b14_b54, ne_b14_b66, ne_b22_b31, ne_b22_b43, ne_b22_b54, ne_b22_b66, ne_b31_b43, ne_b31_b54, ne_b31_b66, ne_b43_b54, ne_b43_b66, ne_b54_b66, O14, O22, O54, O66⟩, ⟨f71, f72, f73, f74, f75, f76, f77, f78, f79, Fw69, f80, f81, f82, f83, f84, f85⟩⟩
theorem d4_0 : decode prog_18_method_2_code 0 = .ok (.aload_n 0, 1) := by decide +kernel
theorem d4_1 : decode prog_18_method_2_code 1 = .ok (.dup, 1) := by decide +kernel
theorem d4_2 : decode prog_18_method_2_code 2 = .ok (.getfield 47, 3) := by decide +kernel
theorem d4_5 : decode prog_18_method_2_code 5 = .ok (.dup_x1, 1) := by decide +kernel
theorem d4_6 : decode prog_18_method_2_code 6 = .ok (.iconst 1, 1) := by decide +kernel
theorem d4_7 : decode prog_18_method_2_code 7 = .ok (.iadd, 1) := by decide +kernel
theorem d4_8 : decode prog_18_method_2_code 8 = .ok (.putfield 47, 3) := by decide +kernel
theorem d4_11 : decode prog_18_method_2_code 11 = .ok (.istore 4, 2) := by decide +kernel
theorem d4_13 : decode prog_18_method_2_code 13 = .ok (.aload_n 0, 1) := by decide +kernel
theorem d4_14 : decode prog_18_method_2_code 14 = .ok (.getfield 38, 3) := by decide +kernel
theorem d4_17 : decode prog_18_method_2_code 17 = .ok (.iload 4, 2) := by decide +kernel
theorem d4_19 : decode prog_18_method_2_code 19 = .ok (.iload_n 1, 1) := by decide +kernel
theorem d4_20 : decode prog_18_method_2_code 20 = .ok (.iastore, 1) := by decide +kernel
theorem d4_21 : decode prog_18_method_2_code 21 = .ok (.aload_n 0, 1) := by decide +kernel
theorem d4_22 : decode prog_18_method_2_code 22 = .ok (.getfield 41, 3) := by decide +kernel
theorem d4_25 : decode prog_18_method_2_code 25 = .ok (.iload 4, 2) := by decide +kernel
theorem d4_27 : decode prog_18_method_2_code 27 = .ok (.aload_n 2, 1) := by decide +kernel
theorem d4_28 : decode prog_18_method_2_code 28 = .ok (.aastore, 1) := by decide +kernel
theorem d4_29 : decode prog_18_method_2_code 29 = .ok (.aload_n 0, 1) := by decide +kernel
theorem d4_30 : decode prog_18_method_2_code 30 = .ok (.getfield 44, 3) := by decide +kernel
theorem d4_33 : decode prog_18_method_2_code 33 = .ok (.iload 4, 2) := by decide +kernel
theorem d4_35 : decode prog_18_method_2_code 35 = .ok (.aload_n 3, 1) := by decide +kernel
theorem d4_36 : decode prog_18_method_2_code 36 = .ok (.aastore, 1) := by decide +kernel
theorem d4_37 : decode prog_18_method_2_code 37 = .ok (.iload 4, 2) := by decide +kernel
theorem d4_39 : decode prog_18_method_2_code 39 = .ok (.ireturn, 1) := by decide +kernel
theorem ef_rm4_0 (m : MethodId) (a0 : Addr) (p1 : Int32) (a2 : Addr) (a3 : Addr) : entryFrame m #[(.ref a0), (.int p1), (.ref a2), (.ref a3)] 5 = (mkF m 0 #[.val (.ref a0), .val (.int p1), .val (.ref a2), .val (.ref a3), .unset] []) := by first | (simp [entryFrame, mkF, argsToLocals, Value.category]; done) | rfl
def Q4_0 (Z : State) (a0 : Addr) (p1 : Int32) (a2 : Addr) (a3 : Addr) (rb : Addr) (ml : Addr) (ln : Addr) (pe : Addr) (pu : Addr) (pc : Addr) (kr : ClassId) (km : ClassId) (kl : ClassId) (ke : ClassId) (ku : ClassId) (kc : ClassId) (rd : Int64) (lrb : List Value) (lml : List Value) (lln : List Value) (le0 : Value) (le1 : Value) (lu0 : Value) (lu1 : Value) (lc0 : Value) (lc1 : Value) (h0 : Heap) (n0 : Nat) (v : Option Value) (h : Heap) (L : List Loc) : Prop := v = some (.int (0 : Int32)) ∧ Fr n0 L ∧ Keep h0 h [a0, pe, pu, pc] ∧ own_Fac Z h a0 rb ml ln pe pu pc kr km kl ke ku kc (2 : Int32) (1 : Int32) rd lrb lml lln [(.int p1), le1] [(.ref a2), lu1] [(.ref a3), lc1]
set_option maxRecDepth 65536 in
set_option maxHeartbeats 40000000 in
theorem rm4_0 (l : Launch) (Z : State) (aa : Array Value) (hw : ∀ d ∈ tables_1, d.before aa Z = true) (ws : List Jvm.Cond) (a0 : Addr) (p1 : Int32) (a2 : Addr) (a3 : Addr) (rb : Addr) (ml : Addr) (ln : Addr) (pe : Addr) (pu : Addr) (pc : Addr) (kr : ClassId) (km : ClassId) (kl : ClassId) (ke : ClassId) (ku : ClassId) (kc : ClassId) (rd : Int64) (lrb : List Value) (lml : List Value) (lln : List Value) (le0 : Value) (le1 : Value) (lu0 : Value) (lu1 : Value) (lc0 : Value) (lc1 : Value) (h0 : Heap) (n0 : Nat) (Z0 : n0 ≤ h0.size) (SP : own_Sep Z n0 a0 rb ml ln pe pu pc kr km ku kc) (FA : own_Fac Z h0 a0 rb ml ln pe pu pc kr km kl ke ku kc (2 : Int32) (0 : Int32) rd lrb lml lln [le0, le1] [lu0, lu1] [lc0, lc1]) (E2 : Exa Z h0 a2 "[I") (E3 : Exa Z h0 a3 "[D") :
    MetFree l (⟨"com/example/sondage/sondage/inference/Factorization", "pivot", "(I[I[D)I"⟩ : MethodName) (head1 (Jvm.Cond.code (⟨"com/example/sondage/sondage/inference/Factorization", "pivot", "(I[I[D)I"⟩ : MethodName) prog_18_method_2_code 5 (some .int) :: ws) ({ frames := 0, cells := 0, slots := 0, locals := 0 } : Room)) (fun a U => a = #[(.ref a0), (.int p1), (.ref a2), (.ref a3)] ∧ Z.Warmed39 U.vm ∧ U.heap = h0) (fun _ _ _ _ _ => True) (fun _ U o U' => ∃ v L, o = .returned v ∧ Q4_0 Z a0 p1 a2 a3 rb ml ln pe pu pc kr km kl ke ku kc rd lrb lml lln le0 le1 lu0 lu1 lc0 lc1 h0 n0 v U'.heap L ∧ FrameEnd U o U' L ({ frames := 0, cells := 0, slots := 0, locals := 0 } : Room).cells ({ frames := 0, cells := 0, slots := 0, locals := 0 } : Room).slots) := by
  refine MetFree.of_bodySF (plainFor_of_name pn_com_example_sondage_sondage_inference_Factorization) hisR ?_
  intro p e s m args below meth c s₁ Bd hml0 hP hK
  obtain ⟨rfl, hZ, hh⟩ := hP
  have hx := Bd.exec
  have hby := Bd.bytes
  have hml : c.maxLocals = 5 := hml0
  have hown : s.vm.findClass "com/example/sondage/sondage/inference/Factorization" = some m.cls := findClass_of_methodNamed Bd.named
  have hnm := (name_of_methodNamed Bd.named Bd.method).1
  have X0 : Stand p l e ({ frames := 0, cells := 0, slots := 0, locals := 0 } : Room) s m #[(.ref a0), (.int p1), (.ref a2), (.ref a3)] below meth c s₁ [] 0 0 := Stand.of_body Bd
  have e0 : s₁.heap = h0 := by rw [← hh, Bd.state]; rfl
  have N0 := Fr.nil n0
  obtain ⟨G0, hG0⟩ : ∃ G, G = s₁.setTop (entryFrame m #[(.ref a0), (.int p1), (.ref a2), (.ref a3)] 5) := ⟨_, rfl⟩
  have K0 : ∀ t, Steps p.tables e below (s₁.setTop (mkF m 0 #[.val (.ref a0), .val (.int p1), .val (.ref a2), .val (.ref a3), .unset] [])) t → Steps p.tables e below G0 t := fun t k => by rw [hG0]; exact castTop (ef_rm4_0 m a0 p1 a2 a3) k
  obtain ⟨fc_0, fc_1, fc_2, fc_3, fc_4, fc_5, fc_6, fc_7, fc_8, fc_9, fc_10, fc_11, fc_12, fc_13, fc_14, fc_15⟩ := id FA
  obtain ⟨fg_0, fg_1, fg_2, fg_3, fg_4, fg_5, fg_6, ne_a0_rb, ne_a0_ml, ne_a0_ln, ne_a0_pe, ne_a0_pu, ne_a0_pc, ne_rb_ml, ne_rb_ln, ne_rb_pe, ne_rb_pu, ne_rb_pc, ne_ml_ln, ne_ml_pe, ne_ml_pu, ne_ml_pc, ne_ln_pe, ne_ln_pu, ne_ln_pc, ne_pe_pu, ne_pe_pc, ne_pu_pc, ov_0, ov_1, ov_2, ov_3⟩ := id SP
  have K1 : ∀ t, Steps p.tables e below (s₁.setTop (mkF m 2 #[.val (.ref a0), .val (.int p1), .val (.ref a2), .val (.ref a3), .unset] [(.ref a0), (.ref a0)])) t → Steps p.tables e below G0 t := by
    intro t kt
    refine K0 t ?_
    refine XS.aloadN X0.here hx rfl (hb hby d4_0) rfl rfl ?_
    show Steps p.tables e below (s₁.setTop (mkF m 1 #[.val (.ref a0), .val (.int p1), .val (.ref a2), .val (.ref a3), .unset] [(.ref a0)])) _
    refine XS.dup X0.here hx rfl (hb hby d4_1) rfl rfl ?_
    show Steps p.tables e below (s₁.setTop (mkF m 2 #[.val (.ref a0), .val (.int p1), .val (.ref a2), .val (.ref a3), .unset] [(.ref a0), (.ref a0)])) _
    exact kt
  obtain ⟨T2, X2, e2, st2⟩ := getF X0 hx hZ hown (host := "") (Or.inl (hw _ (List.mem_of_getElem? (i := 41) rfl))) Via.refl e0 fc_2 (g := (mkF m 2 #[.val (.ref a0), .val (.int p1), .val (.ref a2), .val (.ref a3), .unset] [(.ref a0), (.ref a0)])) rfl rfl (hb hby d4_2)
  have K2 : ∀ t, Steps p.tables e below (T2.setTop (mkF m 5 #[.val (.ref a0), .val (.int p1), .val (.ref a2), .val (.ref a3), .unset] [(.int (0 : Int32)), (.ref a0)])) t → Steps p.tables e below G0 t := fun t kt => K1 t (st2 _ kt)
  have K3 : ∀ t, Steps p.tables e below (T2.setTop (mkF m 8 #[.val (.ref a0), .val (.int p1), .val (.ref a2), .val (.ref a3), .unset] [(.int ((0 : Int32) + (1 : Int32))), (.ref a0), (.int (0 : Int32))])) t → Steps p.tables e below G0 t := by
    intro t kt
    refine K2 t ?_
    refine XS.dupX1 X2.here hx rfl (hb hby d4_5) rfl rfl rfl ?_
    show Steps p.tables e below (T2.setTop (mkF m 6 #[.val (.ref a0), .val (.int p1), .val (.ref a2), .val (.ref a3), .unset] [(.int (0 : Int32)), (.ref a0), (.int (0 : Int32))])) _
    refine XS.iconst X2.here hx rfl (hb hby d4_6) ?_
    show Steps p.tables e below (T2.setTop (mkF m 7 #[.val (.ref a0), .val (.int p1), .val (.ref a2), .val (.ref a3), .unset] [(.int (1 : Int32)), (.int (0 : Int32)), (.ref a0), (.int (0 : Int32))])) _
    refine XS.iadd X2.here hx rfl (hb hby d4_7) rfl ?_
    show Steps p.tables e below (T2.setTop (mkF m 8 #[.val (.ref a0), .val (.int p1), .val (.ref a2), .val (.ref a3), .unset] [(.int ((0 : Int32) + (1 : Int32))), (.ref a0), (.int (0 : Int32))])) _
    exact kt
  obtain ⟨T4, h4, X4, e4, W4, st4⟩ := putF X2 hx hZ hown (host := "") (Or.inl (hw _ (List.mem_of_getElem? (i := 41) rfl))) Via.refl e2 fc_2 fc_0 (Or.inl (hw _ (List.mem_of_getElem? (i := 42) rfl))) (hw _ (List.mem_of_getElem? (i := 1) rfl)) (ty := .int) (by decide) rfl rfl (g := (mkF m 8 #[.val (.ref a0), .val (.int p1), .val (.ref a2), .val (.ref a3), .unset] [(.int ((0 : Int32) + (1 : Int32))), (.ref a0), (.int (0 : Int32))])) rfl rfl (hb hby d4_8)
  have K4 : ∀ t, Steps p.tables e below (T4.setTop (mkF m 11 #[.val (.ref a0), .val (.int p1), .val (.ref a2), .val (.ref a3), .unset] [(.int (0 : Int32))])) t → Steps p.tables e below G0 t := fun t kt => K3 t (st4 _ kt)
  have Fw4 := (fc_2).same W4
  have N4 := Fr.snoc X4 N0 fg_0
  have Z4 : n0 ≤ h4.size := Nat.le_trans Z0 (Keep.of_wr W4).1
  have K5 : ∀ t, Steps p.tables e below (T4.setTop (mkF m 14 #[.val (.ref a0), .val (.int p1), .val (.ref a2), .val (.ref a3), .val (.int (0 : Int32))] [(.ref a0)])) t → Steps p.tables e below G0 t := by
    intro t kt
    refine K4 t ?_
    refine XS.istore X4.here hx rfl (hb hby d4_11) rfl (l' := #[.val (.ref a0), .val (.int p1), .val (.ref a2), .val (.ref a3), .val (.int (0 : Int32))]) rfl ?_
    show Steps p.tables e below (T4.setTop (mkF m 13 #[.val (.ref a0), .val (.int p1), .val (.ref a2), .val (.ref a3), .val (.int (0 : Int32))] [])) _
    refine XS.aloadN X4.here hx rfl (hb hby d4_13) rfl rfl ?_
    show Steps p.tables e below (T4.setTop (mkF m 14 #[.val (.ref a0), .val (.int p1), .val (.ref a2), .val (.ref a3), .val (.int (0 : Int32))] [(.ref a0)])) _
    exact kt
  have f6 := (fc_7.other W4 (Or.inr (slot_ne (Or.inr (hw _ (List.mem_of_getElem? (i := 30) rfl))) (Or.inl (hw _ (List.mem_of_getElem? (i := 42) rfl))) (by decide) (t := (.array .int)) (t' := .int) (by decide) (by decide))))
  obtain ⟨T7, X7, e7, st7⟩ := getF X4 hx hZ hown (host := "") (Or.inl (hw _ (List.mem_of_getElem? (i := 29) rfl))) Via.refl e4 f6 (g := (mkF m 14 #[.val (.ref a0), .val (.int p1), .val (.ref a2), .val (.ref a3), .val (.int (0 : Int32))] [(.ref a0)])) rfl rfl (hb hby d4_14)
  have K7 : ∀ t, Steps p.tables e below (T7.setTop (mkF m 17 #[.val (.ref a0), .val (.int p1), .val (.ref a2), .val (.ref a3), .val (.int (0 : Int32))] [(.ref pe)])) t → Steps p.tables e below G0 t := fun t kt => K5 t (st7 _ kt)
  have K8 : ∀ t, Steps p.tables e below (T7.setTop (mkF m 20 #[.val (.ref a0), .val (.int p1), .val (.ref a2), .val (.ref a3), .val (.int (0 : Int32))] [(.int p1), (.int (0 : Int32)), (.ref pe)])) t → Steps p.tables e below G0 t := by
    intro t kt
    refine K7 t ?_
    refine XS.iload X7.here hx rfl (hb hby d4_17) rfl ?_
    show Steps p.tables e below (T7.setTop (mkF m 19 #[.val (.ref a0), .val (.int p1), .val (.ref a2), .val (.ref a3), .val (.int (0 : Int32))] [(.int (0 : Int32)), (.ref pe)])) _
    refine XS.iloadN X7.here hx rfl (hb hby d4_19) rfl ?_
    show Steps p.tables e below (T7.setTop (mkF m 20 #[.val (.ref a0), .val (.int p1), .val (.ref a2), .val (.ref a3), .val (.int (0 : Int32))] [(.int p1), (.int (0 : Int32)), (.ref pe)])) _
    exact kt
  have f9 := (fc_13.other W4 (Ne.symm ne_a0_pe))
  obtain ⟨cl10, Ar10, qq10, S10, M10, H10, GG10⟩ := id f9
  have hin10 : ¬ ((0 : Int32) < 0 ∨ cl10.slots.size ≤ ((0 : Int32)).toNatClampNeg) := inb_of S10 ⟨by decide, by decide⟩
  obtain ⟨T11, h11, X11, e11, W11, st11⟩ := stI X7 hx hZ e7 Ar10 (j := (0 : Int32)) hin10 (g := (mkF m 20 #[.val (.ref a0), .val (.int p1), .val (.ref a2), .val (.ref a3), .val (.int (0 : Int32))] [(.int p1), (.int (0 : Int32)), (.ref pe)])) rfl rfl (hb hby d4_20)
  have K11 : ∀ t, Steps p.tables e below (T11.setTop (mkF m 21 #[.val (.ref a0), .val (.int p1), .val (.ref a2), .val (.ref a3), .val (.int (0 : Int32))] [])) t → Steps p.tables e below G0 t := fun t kt => K8 t (st11 _ kt)
  have Z11 : n0 ≤ h11.size := Nat.le_trans Z4 (Keep.of_wr W11).1
  have VL11 : Arv Z h11 pe ke .int (2 : Int32) [(.int p1), le1] (.int (0 : Int32)) := Arv.set Ar10 qq10 S10 M10 H10 GG10 rfl W11 0 rfl (Nat.le_of_ble_eq_true rfl)
  have N11 := Fr.snoc X11 N4 fg_4
  have K12 : ∀ t, Steps p.tables e below (T11.setTop (mkF m 22 #[.val (.ref a0), .val (.int p1), .val (.ref a2), .val (.ref a3), .val (.int (0 : Int32))] [(.ref a0)])) t → Steps p.tables e below G0 t := by
    intro t kt
    refine K11 t ?_
    refine XS.aloadN X11.here hx rfl (hb hby d4_21) rfl rfl ?_
    show Steps p.tables e below (T11.setTop (mkF m 22 #[.val (.ref a0), .val (.int p1), .val (.ref a2), .val (.ref a3), .val (.int (0 : Int32))] [(.ref a0)])) _
    exact kt
  have f13 := ((fc_8.other W4 (Or.inr (slot_ne (Or.inr (hw _ (List.mem_of_getElem? (i := 32) rfl))) (Or.inl (hw _ (List.mem_of_getElem? (i := 42) rfl))) (by decide) (t := (.array (.array .int))) (t' := .int) (by decide) (by decide)))).other W11 (Or.inl ne_a0_pe))
  obtain ⟨T14, X14, e14, st14⟩ := getF X11 hx hZ hown (host := "") (Or.inl (hw _ (List.mem_of_getElem? (i := 31) rfl))) Via.refl e11 f13 (g := (mkF m 22 #[.val (.ref a0), .val (.int p1), .val (.ref a2), .val (.ref a3), .val (.int (0 : Int32))] [(.ref a0)])) rfl rfl (hb hby d4_22)
  have K14 : ∀ t, Steps p.tables e below (T14.setTop (mkF m 25 #[.val (.ref a0), .val (.int p1), .val (.ref a2), .val (.ref a3), .val (.int (0 : Int32))] [(.ref pu)])) t → Steps p.tables e below G0 t := fun t kt => K12 t (st14 _ kt)
  have K15 : ∀ t, Steps p.tables e below (T14.setTop (mkF m 28 #[.val (.ref a0), .val (.int p1), .val (.ref a2), .val (.ref a3), .val (.int (0 : Int32))] [(.ref a2), (.int (0 : Int32)), (.ref pu)])) t → Steps p.tables e below G0 t := by
    intro t kt
    refine K14 t ?_
    refine XS.iload X14.here hx rfl (hb hby d4_25) rfl ?_
    show Steps p.tables e below (T14.setTop (mkF m 27 #[.val (.ref a0), .val (.int p1), .val (.ref a2), .val (.ref a3), .val (.int (0 : Int32))] [(.int (0 : Int32)), (.ref pu)])) _
    refine XS.aloadN X14.here hx rfl (hb hby d4_27) rfl rfl ?_
    show Steps p.tables e below (T14.setTop (mkF m 28 #[.val (.ref a0), .val (.int p1), .val (.ref a2), .val (.ref a3), .val (.int (0 : Int32))] [(.ref a2), (.int (0 : Int32)), (.ref pu)])) _
    exact kt
  have f16 := ((fc_14.other W4 (Ne.symm ne_a0_pu)).other W11 (Ne.symm ne_pe_pu))
  obtain ⟨cl17, Ar17, qq17, S17, M17, H17, GG17⟩ := id f16
  have hin17 : ¬ ((0 : Int32) < 0 ∨ cl17.slots.size ≤ ((0 : Int32)).toNatClampNeg) := inb_of S17 ⟨by decide, by decide⟩
  have f18 := ((E2.wr W4).wr W11)
  obtain ⟨T19, h19, X19, e19, W19, st19⟩ := stR X14 hx hZ e14 Ar17 (j := (0 : Int32)) hin17 rfl (Sto.ofVA Ar17 qq17 ov_2 (Ins.self f18)) (g := (mkF m 28 #[.val (.ref a0), .val (.int p1), .val (.ref a2), .val (.ref a3), .val (.int (0 : Int32))] [(.ref a2), (.int (0 : Int32)), (.ref pu)])) rfl rfl (hb hby d4_28)
  have K19 : ∀ t, Steps p.tables e below (T19.setTop (mkF m 29 #[.val (.ref a0), .val (.int p1), .val (.ref a2), .val (.ref a3), .val (.int (0 : Int32))] [])) t → Steps p.tables e below G0 t := fun t kt => K15 t (st19 _ kt)
  have Z19 : n0 ≤ h19.size := Nat.le_trans Z11 (Keep.of_wr W19).1
  have VL19 : Arv Z h19 pu ku (.array .int) (2 : Int32) [(.ref a2), lu1] .null := Arv.set Ar17 qq17 S17 M17 H17 GG17 rfl W19 0 rfl (Nat.le_of_ble_eq_true rfl)
  have N19 := Fr.snoc X19 N11 fg_5
  have K20 : ∀ t, Steps p.tables e below (T19.setTop (mkF m 30 #[.val (.ref a0), .val (.int p1), .val (.ref a2), .val (.ref a3), .val (.int (0 : Int32))] [(.ref a0)])) t → Steps p.tables e below G0 t := by
    intro t kt
    refine K19 t ?_
    refine XS.aloadN X19.here hx rfl (hb hby d4_29) rfl rfl ?_
    show Steps p.tables e below (T19.setTop (mkF m 30 #[.val (.ref a0), .val (.int p1), .val (.ref a2), .val (.ref a3), .val (.int (0 : Int32))] [(.ref a0)])) _
    exact kt
  have f21 := (((fc_9.other W4 (Or.inr (slot_ne (Or.inr (hw _ (List.mem_of_getElem? (i := 34) rfl))) (Or.inl (hw _ (List.mem_of_getElem? (i := 42) rfl))) (by decide) (t := (.array (.array .double))) (t' := .int) (by decide) (by decide)))).other W11 (Or.inl ne_a0_pe)).other W19 (Or.inl ne_a0_pu))
  obtain ⟨T22, X22, e22, st22⟩ := getF X19 hx hZ hown (host := "") (Or.inl (hw _ (List.mem_of_getElem? (i := 33) rfl))) Via.refl e19 f21 (g := (mkF m 30 #[.val (.ref a0), .val (.int p1), .val (.ref a2), .val (.ref a3), .val (.int (0 : Int32))] [(.ref a0)])) rfl rfl (hb hby d4_30)
  have K22 : ∀ t, Steps p.tables e below (T22.setTop (mkF m 33 #[.val (.ref a0), .val (.int p1), .val (.ref a2), .val (.ref a3), .val (.int (0 : Int32))] [(.ref pc)])) t → Steps p.tables e below G0 t := fun t kt => K20 t (st22 _ kt)
  have K23 : ∀ t, Steps p.tables e below (T22.setTop (mkF m 36 #[.val (.ref a0), .val (.int p1), .val (.ref a2), .val (.ref a3), .val (.int (0 : Int32))] [(.ref a3), (.int (0 : Int32)), (.ref pc)])) t → Steps p.tables e below G0 t := by
    intro t kt
    refine K22 t ?_
    refine XS.iload X22.here hx rfl (hb hby d4_33) rfl ?_
    show Steps p.tables e below (T22.setTop (mkF m 35 #[.val (.ref a0), .val (.int p1), .val (.ref a2), .val (.ref a3), .val (.int (0 : Int32))] [(.int (0 : Int32)), (.ref pc)])) _
    refine XS.aloadN X22.here hx rfl (hb hby d4_35) rfl rfl ?_
    show Steps p.tables e below (T22.setTop (mkF m 36 #[.val (.ref a0), .val (.int p1), .val (.ref a2), .val (.ref a3), .val (.int (0 : Int32))] [(.ref a3), (.int (0 : Int32)), (.ref pc)])) _
    exact kt
  have f24 := (((fc_15.other W4 (Ne.symm ne_a0_pc)).other W11 (Ne.symm ne_pe_pc)).other W19 (Ne.symm ne_pu_pc))
  obtain ⟨cl25, Ar25, qq25, S25, M25, H25, GG25⟩ := id f24
  have hin25 : ¬ ((0 : Int32) < 0 ∨ cl25.slots.size ≤ ((0 : Int32)).toNatClampNeg) := inb_of S25 ⟨by decide, by decide⟩
  have f26 := (((E3.wr W4).wr W11).wr W19)
  obtain ⟨T27, h27, X27, e27, W27, st27⟩ := stR X22 hx hZ e22 Ar25 (j := (0 : Int32)) hin25 rfl (Sto.ofVA Ar25 qq25 ov_3 (Ins.self f26)) (g := (mkF m 36 #[.val (.ref a0), .val (.int p1), .val (.ref a2), .val (.ref a3), .val (.int (0 : Int32))] [(.ref a3), (.int (0 : Int32)), (.ref pc)])) rfl rfl (hb hby d4_36)
  have K27 : ∀ t, Steps p.tables e below (T27.setTop (mkF m 37 #[.val (.ref a0), .val (.int p1), .val (.ref a2), .val (.ref a3), .val (.int (0 : Int32))] [])) t → Steps p.tables e below G0 t := fun t kt => K23 t (st27 _ kt)
  have Z27 : n0 ≤ h27.size := Nat.le_trans Z19 (Keep.of_wr W27).1
  have VL27 : Arv Z h27 pc kc (.array .double) (2 : Int32) [(.ref a3), lc1] .null := Arv.set Ar25 qq25 S25 M25 H25 GG25 rfl W27 0 rfl (Nat.le_of_ble_eq_true rfl)
  have N27 := Fr.snoc X27 N19 fg_6
  have K28 : ∀ t, Steps p.tables e below (T27.setTop (mkF m 39 #[.val (.ref a0), .val (.int p1), .val (.ref a2), .val (.ref a3), .val (.int (0 : Int32))] [(.int (0 : Int32))])) t → Steps p.tables e below G0 t := by
    intro t kt
    refine K27 t ?_
    refine XS.iload X27.here hx rfl (hb hby d4_37) rfl ?_
    show Steps p.tables e below (T27.setTop (mkF m 39 #[.val (.ref a0), .val (.int p1), .val (.ref a2), .val (.ref a3), .val (.int (0 : Int32))] [(.int (0 : Int32))])) _
    exact kt
  have KQ29_0 := Keep.refl h0 [a0, pe, pu, pc]
  have KQ29_1 := KQ29_0.wr W4 (Or.inl (List.mem_of_getElem? (i := 0) rfl))
  have KQ29_2 := KQ29_1.wr W11 (Or.inl (List.mem_of_getElem? (i := 1) rfl))
  have KQ29_3 := KQ29_2.wr W19 (Or.inl (List.mem_of_getElem? (i := 2) rfl))
  have KQ29_4 := KQ29_3.wr W27 (Or.inl (List.mem_of_getElem? (i := 3) rfl))
  have f30 := ((((fc_0.wr W4).wr W11).wr W19).wr W27)
  have f31 := ((((fc_1.other W4 (Or.inr (slot_ne (Or.inr (hw _ (List.mem_of_getElem? (i := 10) rfl))) (Or.inl (hw _ (List.mem_of_getElem? (i := 42) rfl))) (by decide) (t := .int) (t' := .int) (by decide) (by decide)))).other W11 (Or.inl ne_a0_pe)).other W19 (Or.inl ne_a0_pu)).other W27 (Or.inl ne_a0_pc))
  have f32 := (((Fw4.other W11 (Or.inl ne_a0_pe)).other W19 (Or.inl ne_a0_pu)).other W27 (Or.inl ne_a0_pc))
  have f33 := ((((fc_3.other W4 (Or.inr (slot_ne (Or.inl (hw _ (List.mem_of_getElem? (i := 51) rfl))) (Or.inl (hw _ (List.mem_of_getElem? (i := 42) rfl))) (by decide) (t := .long) (t' := .int) (by decide) (by decide)))).other W11 (Or.inl ne_a0_pe)).other W19 (Or.inl ne_a0_pu)).other W27 (Or.inl ne_a0_pc))
  have f34 := ((((fc_4.other W4 (Or.inr (slot_ne (Or.inr (hw _ (List.mem_of_getElem? (i := 17) rfl))) (Or.inl (hw _ (List.mem_of_getElem? (i := 42) rfl))) (by decide) (t := (.array (.array .int))) (t' := .int) (by decide) (by decide)))).other W11 (Or.inl ne_a0_pe)).other W19 (Or.inl ne_a0_pu)).other W27 (Or.inl ne_a0_pc))
  have f35 := ((((fc_5.other W4 (Or.inr (slot_ne (Or.inr (hw _ (List.mem_of_getElem? (i := 21) rfl))) (Or.inl (hw _ (List.mem_of_getElem? (i := 42) rfl))) (by decide) (t := (.array (.array .double))) (t' := .int) (by decide) (by decide)))).other W11 (Or.inl ne_a0_pe)).other W19 (Or.inl ne_a0_pu)).other W27 (Or.inl ne_a0_pc))
  have f36 := ((((fc_6.other W4 (Or.inr (slot_ne (Or.inr (hw _ (List.mem_of_getElem? (i := 24) rfl))) (Or.inl (hw _ (List.mem_of_getElem? (i := 42) rfl))) (by decide) (t := (.array .int)) (t' := .int) (by decide) (by decide)))).other W11 (Or.inl ne_a0_pe)).other W19 (Or.inl ne_a0_pu)).other W27 (Or.inl ne_a0_pc))
  have f37 := (((f6.other W11 (Or.inl ne_a0_pe)).other W19 (Or.inl ne_a0_pu)).other W27 (Or.inl ne_a0_pc))
  have f38 := ((f13.other W19 (Or.inl ne_a0_pu)).other W27 (Or.inl ne_a0_pc))
  have f39 := (f21.other W27 (Or.inl ne_a0_pc))
  have f40 := ((((fc_10.other W4 (Ne.symm ne_a0_rb)).other W11 ne_rb_pe).other W19 ne_rb_pu).other W27 ne_rb_pc)
  have f41 := ((((fc_11.other W4 (Ne.symm ne_a0_ml)).other W11 ne_ml_pe).other W19 ne_ml_pu).other W27 ne_ml_pc)
  have f42 := ((((fc_12.other W4 (Ne.symm ne_a0_ln)).other W11 ne_ln_pe).other W19 ne_ln_pu).other W27 ne_ln_pc)
  have f43 := ((VL11.other W19 ne_pe_pu).other W27 ne_pe_pc)
  have f44 := (VL19.other W27 ne_pu_pc)
  obtain ⟨fs, hr, hrun, hended, hW, hsame⟩ := X27.leave (v := some (.int (0 : Int32))) (fun h => by rw [Bd.returns] at h; cases h)
  refine ⟨_, _, ?_, hrun, hended, _, _, rfl, ?_, ⟨_, rfl⟩, hW, hsame.mono (by decide) (by decide)⟩
  · rw [← hG0]
    refine K28 _ ?_
    exact retOut X27 hx (t := .int) Bd.returns rfl (Or.inl ⟨rfl, Or.inl rfl, _, rfl⟩) (hb hby d4_39) hr
  · show Q4_0 Z a0 p1 a2 a3 rb ml ln pe pu pc kr km kl ke ku kc rd lrb lml lln le0 le1 lu0 lu1 lc0 lc1 h0 n0 _ T27.heap _
    rw [e27]
    exact ⟨rfl, N27, KQ29_4, ⟨f30, f31, f32, f33, f34, f35, f36, f37, f38, f39, f40, f41, f42, f43, f44, VL27⟩⟩
theorem ef_rm4_1 (m : MethodId) (a0 : Addr) (p1 : Int32) (a2 : Addr) (a3 : Addr) : entryFrame m #[(.ref a0), (.int p1), (.ref a2), (.ref a3)] 5 = (mkF m 0 #[.val (.ref a0), .val (.int p1), .val (.ref a2), .val (.ref a3), .unset] []) := by first | (simp [entryFrame, mkF, argsToLocals, Value.category]; done) | rfl
def Q4_1 (Z : State) (a0 : Addr) (p1 : Int32) (a2 : Addr) (a3 : Addr) (rb : Addr) (ml : Addr) (ln : Addr) (pe : Addr) (pu : Addr) (pc : Addr) (kr : ClassId) (km : ClassId) (kl : ClassId) (ke : ClassId) (ku : ClassId) (kc : ClassId) (rd : Int64) (lrb : List Value) (lml : List Value) (lln : List Value) (le0 : Value) (le1 : Value) (lu0 : Value) (lu1 : Value) (lc0 : Value) (lc1 : Value) (h0 : Heap) (n0 : Nat) (v : Option Value) (h : Heap) (L : List Loc) : Prop := v = some (.int (1 : Int32)) ∧ Fr n0 L ∧ Keep h0 h [a0, pe, pu, pc] ∧ own_Fac Z h a0 rb ml ln pe pu pc kr km kl ke ku kc (2 : Int32) (2 : Int32) rd lrb lml lln [le0, (.int p1)] [lu0, (.ref a2)] [lc0, (.ref a3)]
set_option maxRecDepth 65536 in
set_option maxHeartbeats 40000000 in
theorem rm4_1 (l : Launch) (Z : State) (aa : Array Value) (hw : ∀ d ∈ tables_1, d.before aa Z = true) (ws : List Jvm.Cond) (a0 : Addr) (p1 : Int32) (a2 : Addr) (a3 : Addr) (rb : Addr) (ml : Addr) (ln : Addr) (pe : Addr) (pu : Addr) (pc : Addr) (kr : ClassId) (km : ClassId) (kl : ClassId) (ke : ClassId) (ku : ClassId) (kc : ClassId) (rd : Int64) (lrb : List Value) (lml : List Value) (lln : List Value) (le0 : Value) (le1 : Value) (lu0 : Value) (lu1 : Value) (lc0 : Value) (lc1 : Value) (h0 : Heap) (n0 : Nat) (Z0 : n0 ≤ h0.size) (SP : own_Sep Z n0 a0 rb ml ln pe pu pc kr km ku kc) (FA : own_Fac Z h0 a0 rb ml ln pe pu pc kr km kl ke ku kc (2 : Int32) (1 : Int32) rd lrb lml lln [le0, le1] [lu0, lu1] [lc0, lc1]) (E2 : Exa Z h0 a2 "[I") (E3 : Exa Z h0 a3 "[D") :
    MetFree l (⟨"com/example/sondage/sondage/inference/Factorization", "pivot", "(I[I[D)I"⟩ : MethodName) (head1 (Jvm.Cond.code (⟨"com/example/sondage/sondage/inference/Factorization", "pivot", "(I[I[D)I"⟩ : MethodName) prog_18_method_2_code 5 (some .int) :: ws) ({ frames := 0, cells := 0, slots := 0, locals := 0 } : Room)) (fun a U => a = #[(.ref a0), (.int p1), (.ref a2), (.ref a3)] ∧ Z.Warmed39 U.vm ∧ U.heap = h0) (fun _ _ _ _ _ => True) (fun _ U o U' => ∃ v L, o = .returned v ∧ Q4_1 Z a0 p1 a2 a3 rb ml ln pe pu pc kr km kl ke ku kc rd lrb lml lln le0 le1 lu0 lu1 lc0 lc1 h0 n0 v U'.heap L ∧ FrameEnd U o U' L ({ frames := 0, cells := 0, slots := 0, locals := 0 } : Room).cells ({ frames := 0, cells := 0, slots := 0, locals := 0 } : Room).slots) := by
  refine MetFree.of_bodySF (plainFor_of_name pn_com_example_sondage_sondage_inference_Factorization) hisR ?_
  intro p e s m args below meth c s₁ Bd hml0 hP hK
  obtain ⟨rfl, hZ, hh⟩ := hP
  have hx := Bd.exec
  have hby := Bd.bytes
  have hml : c.maxLocals = 5 := hml0
  have hown : s.vm.findClass "com/example/sondage/sondage/inference/Factorization" = some m.cls := findClass_of_methodNamed Bd.named
  have hnm := (name_of_methodNamed Bd.named Bd.method).1
  have X0 : Stand p l e ({ frames := 0, cells := 0, slots := 0, locals := 0 } : Room) s m #[(.ref a0), (.int p1), (.ref a2), (.ref a3)] below meth c s₁ [] 0 0 := Stand.of_body Bd
  have e0 : s₁.heap = h0 := by rw [← hh, Bd.state]; rfl
  have N0 := Fr.nil n0
  obtain ⟨G0, hG0⟩ : ∃ G, G = s₁.setTop (entryFrame m #[(.ref a0), (.int p1), (.ref a2), (.ref a3)] 5) := ⟨_, rfl⟩
  have K0 : ∀ t, Steps p.tables e below (s₁.setTop (mkF m 0 #[.val (.ref a0), .val (.int p1), .val (.ref a2), .val (.ref a3), .unset] [])) t → Steps p.tables e below G0 t := fun t k => by rw [hG0]; exact castTop (ef_rm4_1 m a0 p1 a2 a3) k
  obtain ⟨fc_0, fc_1, fc_2, fc_3, fc_4, fc_5, fc_6, fc_7, fc_8, fc_9, fc_10, fc_11, fc_12, fc_13, fc_14, fc_15⟩ := id FA
  obtain ⟨fg_0, fg_1, fg_2, fg_3, fg_4, fg_5, fg_6, ne_a0_rb, ne_a0_ml, ne_a0_ln, ne_a0_pe, ne_a0_pu, ne_a0_pc, ne_rb_ml, ne_rb_ln, ne_rb_pe, ne_rb_pu, ne_rb_pc, ne_ml_ln, ne_ml_pe, ne_ml_pu, ne_ml_pc, ne_ln_pe, ne_ln_pu, ne_ln_pc, ne_pe_pu, ne_pe_pc, ne_pu_pc, ov_0, ov_1, ov_2, ov_3⟩ := id SP
  have K1 : ∀ t, Steps p.tables e below (s₁.setTop (mkF m 2 #[.val (.ref a0), .val (.int p1), .val (.ref a2), .val (.ref a3), .unset] [(.ref a0), (.ref a0)])) t → Steps p.tables e below G0 t := by
    intro t kt
    refine K0 t ?_
    refine XS.aloadN X0.here hx rfl (hb hby d4_0) rfl rfl ?_
    show Steps p.tables e below (s₁.setTop (mkF m 1 #[.val (.ref a0), .val (.int p1), .val (.ref a2), .val (.ref a3), .unset] [(.ref a0)])) _
    refine XS.dup X0.here hx rfl (hb hby d4_1) rfl rfl ?_
    show Steps p.tables e below (s₁.setTop (mkF m 2 #[.val (.ref a0), .val (.int p1), .val (.ref a2), .val (.ref a3), .unset] [(.ref a0), (.ref a0)])) _
    exact kt
  obtain ⟨T2, X2, e2, st2⟩ := getF X0 hx hZ hown (host := "") (Or.inl (hw _ (List.mem_of_getElem? (i := 41) rfl))) Via.refl e0 fc_2 (g := (mkF m 2 #[.val (.ref a0), .val (.int p1), .val (.ref a2), .val (.ref a3), .unset] [(.ref a0), (.ref a0)])) rfl rfl (hb hby d4_2)
  have K2 : ∀ t, Steps p.tables e below (T2.setTop (mkF m 5 #[.val (.ref a0), .val (.int p1), .val (.ref a2), .val (.ref a3), .unset] [(.int (1 : Int32)), (.ref a0)])) t → Steps p.tables e below G0 t := fun t kt => K1 t (st2 _ kt)
  have K3 : ∀ t, Steps p.tables e below (T2.setTop (mkF m 8 #[.val (.ref a0), .val (.int p1), .val (.ref a2), .val (.ref a3), .unset] [(.int ((1 : Int32) + (1 : Int32))), (.ref a0), (.int (1 : Int32))])) t → Steps p.tables e below G0 t := by
    intro t kt
    refine K2 t ?_
    refine XS.dupX1 X2.here hx rfl (hb hby d4_5) rfl rfl rfl ?_
    show Steps p.tables e below (T2.setTop (mkF m 6 #[.val (.ref a0), .val (.int p1), .val (.ref a2), .val (.ref a3), .unset] [(.int (1 : Int32)), (.ref a0), (.int (1 : Int32))])) _
    refine XS.iconst X2.here hx rfl (hb hby d4_6) ?_
    show Steps p.tables e below (T2.setTop (mkF m 7 #[.val (.ref a0), .val (.int p1), .val (.ref a2), .val (.ref a3), .unset] [(.int (1 : Int32)), (.int (1 : Int32)), (.ref a0), (.int (1 : Int32))])) _
    refine XS.iadd X2.here hx rfl (hb hby d4_7) rfl ?_
    show Steps p.tables e below (T2.setTop (mkF m 8 #[.val (.ref a0), .val (.int p1), .val (.ref a2), .val (.ref a3), .unset] [(.int ((1 : Int32) + (1 : Int32))), (.ref a0), (.int (1 : Int32))])) _
    exact kt
  obtain ⟨T4, h4, X4, e4, W4, st4⟩ := putF X2 hx hZ hown (host := "") (Or.inl (hw _ (List.mem_of_getElem? (i := 41) rfl))) Via.refl e2 fc_2 fc_0 (Or.inl (hw _ (List.mem_of_getElem? (i := 42) rfl))) (hw _ (List.mem_of_getElem? (i := 1) rfl)) (ty := .int) (by decide) rfl rfl (g := (mkF m 8 #[.val (.ref a0), .val (.int p1), .val (.ref a2), .val (.ref a3), .unset] [(.int ((1 : Int32) + (1 : Int32))), (.ref a0), (.int (1 : Int32))])) rfl rfl (hb hby d4_8)
  have K4 : ∀ t, Steps p.tables e below (T4.setTop (mkF m 11 #[.val (.ref a0), .val (.int p1), .val (.ref a2), .val (.ref a3), .unset] [(.int (1 : Int32))])) t → Steps p.tables e below G0 t := fun t kt => K3 t (st4 _ kt)
  have Fw4 := (fc_2).same W4
  have N4 := Fr.snoc X4 N0 fg_0
  have Z4 : n0 ≤ h4.size := Nat.le_trans Z0 (Keep.of_wr W4).1
  have K5 : ∀ t, Steps p.tables e below (T4.setTop (mkF m 14 #[.val (.ref a0), .val (.int p1), .val (.ref a2), .val (.ref a3), .val (.int (1 : Int32))] [(.ref a0)])) t → Steps p.tables e below G0 t := by
    intro t kt
    refine K4 t ?_
    refine XS.istore X4.here hx rfl (hb hby d4_11) rfl (l' := #[.val (.ref a0), .val (.int p1), .val (.ref a2), .val (.ref a3), .val (.int (1 : Int32))]) rfl ?_
    show Steps p.tables e below (T4.setTop (mkF m 13 #[.val (.ref a0), .val (.int p1), .val (.ref a2), .val (.ref a3), .val (.int (1 : Int32))] [])) _
    refine XS.aloadN X4.here hx rfl (hb hby d4_13) rfl rfl ?_
    show Steps p.tables e below (T4.setTop (mkF m 14 #[.val (.ref a0), .val (.int p1), .val (.ref a2), .val (.ref a3), .val (.int (1 : Int32))] [(.ref a0)])) _
    exact kt
  have f6 := (fc_7.other W4 (Or.inr (slot_ne (Or.inr (hw _ (List.mem_of_getElem? (i := 30) rfl))) (Or.inl (hw _ (List.mem_of_getElem? (i := 42) rfl))) (by decide) (t := (.array .int)) (t' := .int) (by decide) (by decide))))
  obtain ⟨T7, X7, e7, st7⟩ := getF X4 hx hZ hown (host := "") (Or.inl (hw _ (List.mem_of_getElem? (i := 29) rfl))) Via.refl e4 f6 (g := (mkF m 14 #[.val (.ref a0), .val (.int p1), .val (.ref a2), .val (.ref a3), .val (.int (1 : Int32))] [(.ref a0)])) rfl rfl (hb hby d4_14)
  have K7 : ∀ t, Steps p.tables e below (T7.setTop (mkF m 17 #[.val (.ref a0), .val (.int p1), .val (.ref a2), .val (.ref a3), .val (.int (1 : Int32))] [(.ref pe)])) t → Steps p.tables e below G0 t := fun t kt => K5 t (st7 _ kt)
  have K8 : ∀ t, Steps p.tables e below (T7.setTop (mkF m 20 #[.val (.ref a0), .val (.int p1), .val (.ref a2), .val (.ref a3), .val (.int (1 : Int32))] [(.int p1), (.int (1 : Int32)), (.ref pe)])) t → Steps p.tables e below G0 t := by
    intro t kt
    refine K7 t ?_
    refine XS.iload X7.here hx rfl (hb hby d4_17) rfl ?_
    show Steps p.tables e below (T7.setTop (mkF m 19 #[.val (.ref a0), .val (.int p1), .val (.ref a2), .val (.ref a3), .val (.int (1 : Int32))] [(.int (1 : Int32)), (.ref pe)])) _
    refine XS.iloadN X7.here hx rfl (hb hby d4_19) rfl ?_
    show Steps p.tables e below (T7.setTop (mkF m 20 #[.val (.ref a0), .val (.int p1), .val (.ref a2), .val (.ref a3), .val (.int (1 : Int32))] [(.int p1), (.int (1 : Int32)), (.ref pe)])) _
    exact kt
  have f9 := (fc_13.other W4 (Ne.symm ne_a0_pe))
  obtain ⟨cl10, Ar10, qq10, S10, M10, H10, GG10⟩ := id f9
  have hin10 : ¬ ((1 : Int32) < 0 ∨ cl10.slots.size ≤ ((1 : Int32)).toNatClampNeg) := inb_of S10 ⟨by decide, by decide⟩
  obtain ⟨T11, h11, X11, e11, W11, st11⟩ := stI X7 hx hZ e7 Ar10 (j := (1 : Int32)) hin10 (g := (mkF m 20 #[.val (.ref a0), .val (.int p1), .val (.ref a2), .val (.ref a3), .val (.int (1 : Int32))] [(.int p1), (.int (1 : Int32)), (.ref pe)])) rfl rfl (hb hby d4_20)
  have K11 : ∀ t, Steps p.tables e below (T11.setTop (mkF m 21 #[.val (.ref a0), .val (.int p1), .val (.ref a2), .val (.ref a3), .val (.int (1 : Int32))] [])) t → Steps p.tables e below G0 t := fun t kt => K8 t (st11 _ kt)
  have Z11 : n0 ≤ h11.size := Nat.le_trans Z4 (Keep.of_wr W11).1
  have VL11 : Arv Z h11 pe ke .int (2 : Int32) [le0, (.int p1)] (.int (0 : Int32)) := Arv.set Ar10 qq10 S10 M10 H10 GG10 rfl W11 1 rfl (Nat.le_of_ble_eq_true rfl)
  have N11 := Fr.snoc X11 N4 fg_4
  have K12 : ∀ t, Steps p.tables e below (T11.setTop (mkF m 22 #[.val (.ref a0), .val (.int p1), .val (.ref a2), .val (.ref a3), .val (.int (1 : Int32))] [(.ref a0)])) t → Steps p.tables e below G0 t := by
    intro t kt
    refine K11 t ?_
    refine XS.aloadN X11.here hx rfl (hb hby d4_21) rfl rfl ?_
    show Steps p.tables e below (T11.setTop (mkF m 22 #[.val (.ref a0), .val (.int p1), .val (.ref a2), .val (.ref a3), .val (.int (1 : Int32))] [(.ref a0)])) _
    exact kt
  have f13 := ((fc_8.other W4 (Or.inr (slot_ne (Or.inr (hw _ (List.mem_of_getElem? (i := 32) rfl))) (Or.inl (hw _ (List.mem_of_getElem? (i := 42) rfl))) (by decide) (t := (.array (.array .int))) (t' := .int) (by decide) (by decide)))).other W11 (Or.inl ne_a0_pe))
  obtain ⟨T14, X14, e14, st14⟩ := getF X11 hx hZ hown (host := "") (Or.inl (hw _ (List.mem_of_getElem? (i := 31) rfl))) Via.refl e11 f13 (g := (mkF m 22 #[.val (.ref a0), .val (.int p1), .val (.ref a2), .val (.ref a3), .val (.int (1 : Int32))] [(.ref a0)])) rfl rfl (hb hby d4_22)
  have K14 : ∀ t, Steps p.tables e below (T14.setTop (mkF m 25 #[.val (.ref a0), .val (.int p1), .val (.ref a2), .val (.ref a3), .val (.int (1 : Int32))] [(.ref pu)])) t → Steps p.tables e below G0 t := fun t kt => K12 t (st14 _ kt)
  have K15 : ∀ t, Steps p.tables e below (T14.setTop (mkF m 28 #[.val (.ref a0), .val (.int p1), .val (.ref a2), .val (.ref a3), .val (.int (1 : Int32))] [(.ref a2), (.int (1 : Int32)), (.ref pu)])) t → Steps p.tables e below G0 t := by
    intro t kt
    refine K14 t ?_
    refine XS.iload X14.here hx rfl (hb hby d4_25) rfl ?_
    show Steps p.tables e below (T14.setTop (mkF m 27 #[.val (.ref a0), .val (.int p1), .val (.ref a2), .val (.ref a3), .val (.int (1 : Int32))] [(.int (1 : Int32)), (.ref pu)])) _
    refine XS.aloadN X14.here hx rfl (hb hby d4_27) rfl rfl ?_
    show Steps p.tables e below (T14.setTop (mkF m 28 #[.val (.ref a0), .val (.int p1), .val (.ref a2), .val (.ref a3), .val (.int (1 : Int32))] [(.ref a2), (.int (1 : Int32)), (.ref pu)])) _
    exact kt
  have f16 := ((fc_14.other W4 (Ne.symm ne_a0_pu)).other W11 (Ne.symm ne_pe_pu))
  obtain ⟨cl17, Ar17, qq17, S17, M17, H17, GG17⟩ := id f16
  have hin17 : ¬ ((1 : Int32) < 0 ∨ cl17.slots.size ≤ ((1 : Int32)).toNatClampNeg) := inb_of S17 ⟨by decide, by decide⟩
  have f18 := ((E2.wr W4).wr W11)
  obtain ⟨T19, h19, X19, e19, W19, st19⟩ := stR X14 hx hZ e14 Ar17 (j := (1 : Int32)) hin17 rfl (Sto.ofVA Ar17 qq17 ov_2 (Ins.self f18)) (g := (mkF m 28 #[.val (.ref a0), .val (.int p1), .val (.ref a2), .val (.ref a3), .val (.int (1 : Int32))] [(.ref a2), (.int (1 : Int32)), (.ref pu)])) rfl rfl (hb hby d4_28)
  have K19 : ∀ t, Steps p.tables e below (T19.setTop (mkF m 29 #[.val (.ref a0), .val (.int p1), .val (.ref a2), .val (.ref a3), .val (.int (1 : Int32))] [])) t → Steps p.tables e below G0 t := fun t kt => K15 t (st19 _ kt)
  have Z19 : n0 ≤ h19.size := Nat.le_trans Z11 (Keep.of_wr W19).1
  have VL19 : Arv Z h19 pu ku (.array .int) (2 : Int32) [lu0, (.ref a2)] .null := Arv.set Ar17 qq17 S17 M17 H17 GG17 rfl W19 1 rfl (Nat.le_of_ble_eq_true rfl)
  have N19 := Fr.snoc X19 N11 fg_5
  have K20 : ∀ t, Steps p.tables e below (T19.setTop (mkF m 30 #[.val (.ref a0), .val (.int p1), .val (.ref a2), .val (.ref a3), .val (.int (1 : Int32))] [(.ref a0)])) t → Steps p.tables e below G0 t := by
    intro t kt
    refine K19 t ?_
    refine XS.aloadN X19.here hx rfl (hb hby d4_29) rfl rfl ?_
    show Steps p.tables e below (T19.setTop (mkF m 30 #[.val (.ref a0), .val (.int p1), .val (.ref a2), .val (.ref a3), .val (.int (1 : Int32))] [(.ref a0)])) _
    exact kt
  have f21 := (((fc_9.other W4 (Or.inr (slot_ne (Or.inr (hw _ (List.mem_of_getElem? (i := 34) rfl))) (Or.inl (hw _ (List.mem_of_getElem? (i := 42) rfl))) (by decide) (t := (.array (.array .double))) (t' := .int) (by decide) (by decide)))).other W11 (Or.inl ne_a0_pe)).other W19 (Or.inl ne_a0_pu))
  obtain ⟨T22, X22, e22, st22⟩ := getF X19 hx hZ hown (host := "") (Or.inl (hw _ (List.mem_of_getElem? (i := 33) rfl))) Via.refl e19 f21 (g := (mkF m 30 #[.val (.ref a0), .val (.int p1), .val (.ref a2), .val (.ref a3), .val (.int (1 : Int32))] [(.ref a0)])) rfl rfl (hb hby d4_30)
  have K22 : ∀ t, Steps p.tables e below (T22.setTop (mkF m 33 #[.val (.ref a0), .val (.int p1), .val (.ref a2), .val (.ref a3), .val (.int (1 : Int32))] [(.ref pc)])) t → Steps p.tables e below G0 t := fun t kt => K20 t (st22 _ kt)
  have K23 : ∀ t, Steps p.tables e below (T22.setTop (mkF m 36 #[.val (.ref a0), .val (.int p1), .val (.ref a2), .val (.ref a3), .val (.int (1 : Int32))] [(.ref a3), (.int (1 : Int32)), (.ref pc)])) t → Steps p.tables e below G0 t := by
    intro t kt
    refine K22 t ?_
    refine XS.iload X22.here hx rfl (hb hby d4_33) rfl ?_
    show Steps p.tables e below (T22.setTop (mkF m 35 #[.val (.ref a0), .val (.int p1), .val (.ref a2), .val (.ref a3), .val (.int (1 : Int32))] [(.int (1 : Int32)), (.ref pc)])) _
    refine XS.aloadN X22.here hx rfl (hb hby d4_35) rfl rfl ?_
    show Steps p.tables e below (T22.setTop (mkF m 36 #[.val (.ref a0), .val (.int p1), .val (.ref a2), .val (.ref a3), .val (.int (1 : Int32))] [(.ref a3), (.int (1 : Int32)), (.ref pc)])) _
    exact kt
  have f24 := (((fc_15.other W4 (Ne.symm ne_a0_pc)).other W11 (Ne.symm ne_pe_pc)).other W19 (Ne.symm ne_pu_pc))
  obtain ⟨cl25, Ar25, qq25, S25, M25, H25, GG25⟩ := id f24
  have hin25 : ¬ ((1 : Int32) < 0 ∨ cl25.slots.size ≤ ((1 : Int32)).toNatClampNeg) := inb_of S25 ⟨by decide, by decide⟩
  have f26 := (((E3.wr W4).wr W11).wr W19)
  obtain ⟨T27, h27, X27, e27, W27, st27⟩ := stR X22 hx hZ e22 Ar25 (j := (1 : Int32)) hin25 rfl (Sto.ofVA Ar25 qq25 ov_3 (Ins.self f26)) (g := (mkF m 36 #[.val (.ref a0), .val (.int p1), .val (.ref a2), .val (.ref a3), .val (.int (1 : Int32))] [(.ref a3), (.int (1 : Int32)), (.ref pc)])) rfl rfl (hb hby d4_36)
  have K27 : ∀ t, Steps p.tables e below (T27.setTop (mkF m 37 #[.val (.ref a0), .val (.int p1), .val (.ref a2), .val (.ref a3), .val (.int (1 : Int32))] [])) t → Steps p.tables e below G0 t := fun t kt => K23 t (st27 _ kt)
  have Z27 : n0 ≤ h27.size := Nat.le_trans Z19 (Keep.of_wr W27).1
  have VL27 : Arv Z h27 pc kc (.array .double) (2 : Int32) [lc0, (.ref a3)] .null := Arv.set Ar25 qq25 S25 M25 H25 GG25 rfl W27 1 rfl (Nat.le_of_ble_eq_true rfl)
  have N27 := Fr.snoc X27 N19 fg_6
  have K28 : ∀ t, Steps p.tables e below (T27.setTop (mkF m 39 #[.val (.ref a0), .val (.int p1), .val (.ref a2), .val (.ref a3), .val (.int (1 : Int32))] [(.int (1 : Int32))])) t → Steps p.tables e below G0 t := by
    intro t kt
    refine K27 t ?_
    refine XS.iload X27.here hx rfl (hb hby d4_37) rfl ?_
    show Steps p.tables e below (T27.setTop (mkF m 39 #[.val (.ref a0), .val (.int p1), .val (.ref a2), .val (.ref a3), .val (.int (1 : Int32))] [(.int (1 : Int32))])) _
    exact kt
  have KQ29_0 := Keep.refl h0 [a0, pe, pu, pc]
  have KQ29_1 := KQ29_0.wr W4 (Or.inl (List.mem_of_getElem? (i := 0) rfl))
  have KQ29_2 := KQ29_1.wr W11 (Or.inl (List.mem_of_getElem? (i := 1) rfl))
  have KQ29_3 := KQ29_2.wr W19 (Or.inl (List.mem_of_getElem? (i := 2) rfl))
  have KQ29_4 := KQ29_3.wr W27 (Or.inl (List.mem_of_getElem? (i := 3) rfl))
  have f30 := ((((fc_0.wr W4).wr W11).wr W19).wr W27)
  have f31 := ((((fc_1.other W4 (Or.inr (slot_ne (Or.inr (hw _ (List.mem_of_getElem? (i := 10) rfl))) (Or.inl (hw _ (List.mem_of_getElem? (i := 42) rfl))) (by decide) (t := .int) (t' := .int) (by decide) (by decide)))).other W11 (Or.inl ne_a0_pe)).other W19 (Or.inl ne_a0_pu)).other W27 (Or.inl ne_a0_pc))
  have f32 := (((Fw4.other W11 (Or.inl ne_a0_pe)).other W19 (Or.inl ne_a0_pu)).other W27 (Or.inl ne_a0_pc))
  have f33 := ((((fc_3.other W4 (Or.inr (slot_ne (Or.inl (hw _ (List.mem_of_getElem? (i := 51) rfl))) (Or.inl (hw _ (List.mem_of_getElem? (i := 42) rfl))) (by decide) (t := .long) (t' := .int) (by decide) (by decide)))).other W11 (Or.inl ne_a0_pe)).other W19 (Or.inl ne_a0_pu)).other W27 (Or.inl ne_a0_pc))
  have f34 := ((((fc_4.other W4 (Or.inr (slot_ne (Or.inr (hw _ (List.mem_of_getElem? (i := 17) rfl))) (Or.inl (hw _ (List.mem_of_getElem? (i := 42) rfl))) (by decide) (t := (.array (.array .int))) (t' := .int) (by decide) (by decide)))).other W11 (Or.inl ne_a0_pe)).other W19 (Or.inl ne_a0_pu)).other W27 (Or.inl ne_a0_pc))
  have f35 := ((((fc_5.other W4 (Or.inr (slot_ne (Or.inr (hw _ (List.mem_of_getElem? (i := 21) rfl))) (Or.inl (hw _ (List.mem_of_getElem? (i := 42) rfl))) (by decide) (t := (.array (.array .double))) (t' := .int) (by decide) (by decide)))).other W11 (Or.inl ne_a0_pe)).other W19 (Or.inl ne_a0_pu)).other W27 (Or.inl ne_a0_pc))
  have f36 := ((((fc_6.other W4 (Or.inr (slot_ne (Or.inr (hw _ (List.mem_of_getElem? (i := 24) rfl))) (Or.inl (hw _ (List.mem_of_getElem? (i := 42) rfl))) (by decide) (t := (.array .int)) (t' := .int) (by decide) (by decide)))).other W11 (Or.inl ne_a0_pe)).other W19 (Or.inl ne_a0_pu)).other W27 (Or.inl ne_a0_pc))
  have f37 := (((f6.other W11 (Or.inl ne_a0_pe)).other W19 (Or.inl ne_a0_pu)).other W27 (Or.inl ne_a0_pc))
  have f38 := ((f13.other W19 (Or.inl ne_a0_pu)).other W27 (Or.inl ne_a0_pc))
  have f39 := (f21.other W27 (Or.inl ne_a0_pc))
  have f40 := ((((fc_10.other W4 (Ne.symm ne_a0_rb)).other W11 ne_rb_pe).other W19 ne_rb_pu).other W27 ne_rb_pc)
  have f41 := ((((fc_11.other W4 (Ne.symm ne_a0_ml)).other W11 ne_ml_pe).other W19 ne_ml_pu).other W27 ne_ml_pc)
  have f42 := ((((fc_12.other W4 (Ne.symm ne_a0_ln)).other W11 ne_ln_pe).other W19 ne_ln_pu).other W27 ne_ln_pc)
  have f43 := ((VL11.other W19 ne_pe_pu).other W27 ne_pe_pc)
  have f44 := (VL19.other W27 ne_pu_pc)
  obtain ⟨fs, hr, hrun, hended, hW, hsame⟩ := X27.leave (v := some (.int (1 : Int32))) (fun h => by rw [Bd.returns] at h; cases h)
  refine ⟨_, _, ?_, hrun, hended, _, _, rfl, ?_, ⟨_, rfl⟩, hW, hsame.mono (by decide) (by decide)⟩
  · rw [← hG0]
    refine K28 _ ?_
    exact retOut X27 hx (t := .int) Bd.returns rfl (Or.inl ⟨rfl, Or.inl rfl, _, rfl⟩) (hb hby d4_39) hr
  · show Q4_1 Z a0 p1 a2 a3 rb ml ln pe pu pc kr km kl ke ku kc rd lrb lml lln le0 le1 lu0 lu1 lc0 lc1 h0 n0 _ T27.heap _
    rw [e27]
    exact ⟨rfl, N27, KQ29_4, ⟨f30, f31, f32, f33, f34, f35, f36, f37, f38, f39, f40, f41, f42, f43, f44, VL27⟩⟩
theorem d5_0 : decode prog_18_method_6_code 0 = .ok (.aload_n 0, 1) := by decide +kernel
theorem d5_1 : decode prog_18_method_6_code 1 = .ok (.getfield 59, 3) := by decide +kernel
theorem d5_4 : decode prog_18_method_6_code 4 = .ok (.lreturn, 1) := by decide +kernel
theorem ef_rm5 (m : MethodId) (a0 : Addr) : entryFrame m #[(.ref a0)] 1 = (mkF m 0 #[.val (.ref a0)] []) := by first | (simp [entryFrame, mkF, argsToLocals, Value.category]; done) | rfl
def Q5 (Z : State) (a0 : Addr) (rd : Int64) (h0 : Heap) (n0 : Nat) (v : Option Value) (h : Heap) (L : List Loc) : Prop := v = some (.long rd) ∧ Fr n0 L ∧ h = h0
set_option maxRecDepth 65536 in
set_option maxHeartbeats 40000000 in
theorem rm5 (l : Launch) (Z : State) (aa : Array Value) (hw : ∀ d ∈ tables_1, d.before aa Z = true) (ws : List Jvm.Cond) (a0 : Addr) (rd : Int64) (h0 : Heap) (n0 : Nat) (Z0 : n0 ≤ h0.size) (F0 : Fld Z h0 a0 "com/example/sondage/sondage/inference/Factorization" "reductions" "J" (.long rd)) :
    MetFree l (⟨"com/example/sondage/sondage/inference/Factorization", "reductions", "()J"⟩ : MethodName) (head1 (Jvm.Cond.code (⟨"com/example/sondage/sondage/inference/Factorization", "reductions", "()J"⟩ : MethodName) prog_18_method_6_code 1 (some .long) :: ws) ({ frames := 0, cells := 0, slots := 0, locals := 0 } : Room)) (fun a U => a = #[(.ref a0)] ∧ Z.Warmed39 U.vm ∧ U.heap = h0) (fun _ _ _ _ _ => True) (fun _ U o U' => ∃ v L, o = .returned v ∧ Q5 Z a0 rd h0 n0 v U'.heap L ∧ FrameEnd U o U' L ({ frames := 0, cells := 0, slots := 0, locals := 0 } : Room).cells ({ frames := 0, cells := 0, slots := 0, locals := 0 } : Room).slots) := by
  refine MetFree.of_bodySF (plainFor_of_name pn_com_example_sondage_sondage_inference_Factorization) hisR ?_
  intro p e s m args below meth c s₁ Bd hml0 hP hK
  obtain ⟨rfl, hZ, hh⟩ := hP
  have hx := Bd.exec
  have hby := Bd.bytes
  have hml : c.maxLocals = 1 := hml0
  have hown : s.vm.findClass "com/example/sondage/sondage/inference/Factorization" = some m.cls := findClass_of_methodNamed Bd.named
  have hnm := (name_of_methodNamed Bd.named Bd.method).1
  have X0 : Stand p l e ({ frames := 0, cells := 0, slots := 0, locals := 0 } : Room) s m #[(.ref a0)] below meth c s₁ [] 0 0 := Stand.of_body Bd
  have e0 : s₁.heap = h0 := by rw [← hh, Bd.state]; rfl
  have N0 := Fr.nil n0
  obtain ⟨G0, hG0⟩ : ∃ G, G = s₁.setTop (entryFrame m #[(.ref a0)] 1) := ⟨_, rfl⟩
  have K0 : ∀ t, Steps p.tables e below (s₁.setTop (mkF m 0 #[.val (.ref a0)] [])) t → Steps p.tables e below G0 t := fun t k => by rw [hG0]; exact castTop (ef_rm5 m a0) k
  have K1 : ∀ t, Steps p.tables e below (s₁.setTop (mkF m 1 #[.val (.ref a0)] [(.ref a0)])) t → Steps p.tables e below G0 t := by
    intro t kt
    refine K0 t ?_
    refine XS.aloadN X0.here hx rfl (hb hby d5_0) rfl rfl ?_
    show Steps p.tables e below (s₁.setTop (mkF m 1 #[.val (.ref a0)] [(.ref a0)])) _
    exact kt
  obtain ⟨T2, X2, e2, st2⟩ := getF X0 hx hZ hown (host := "") (Or.inl (hw _ (List.mem_of_getElem? (i := 50) rfl))) Via.refl e0 F0 (g := (mkF m 1 #[.val (.ref a0)] [(.ref a0)])) rfl rfl (hb hby d5_1)
  have K2 : ∀ t, Steps p.tables e below (T2.setTop (mkF m 4 #[.val (.ref a0)] [(.long rd)])) t → Steps p.tables e below G0 t := fun t kt => K1 t (st2 _ kt)
  obtain ⟨fs, hr, hrun, hended, hW, hsame⟩ := X2.leave (v := some (.long rd)) (fun h => by rw [Bd.returns] at h; cases h)
  refine ⟨_, _, ?_, hrun, hended, _, _, rfl, ?_, ⟨_, rfl⟩, hW, hsame.mono (by decide) (by decide)⟩
  · rw [← hG0]
    refine K2 _ ?_
    exact retOut X2 hx (t := .long) Bd.returns rfl (Or.inr (Or.inl ⟨rfl, rfl, _, rfl⟩)) (hb hby d5_4) hr
  · show Q5 Z a0 rd h0 n0 _ T2.heap _
    rw [e2]
    exact ⟨rfl, N0, rfl⟩
theorem d6_0 : decode prog_18_method_7_code 0 = .ok (.aload_n 0, 1) := by decide +kernel
theorem d6_1 : decode prog_18_method_7_code 1 = .ok (.getfield 47, 3) := by decide +kernel
theorem d6_4 : decode prog_18_method_7_code 4 = .ok (.newarray .double, 2) := by decide +kernel
theorem d6_6 : decode prog_18_method_7_code 6 = .ok (.astore_n 2, 1) := by decide +kernel
theorem d6_7 : decode prog_18_method_7_code 7 = .ok (.iconst 0, 1) := by decide +kernel
theorem d6_8 : decode prog_18_method_7_code 8 = .ok (.istore_n 3, 1) := by decide +kernel
theorem d6_9 : decode prog_18_method_7_code 9 = .ok (.iload_n 3, 1) := by decide +kernel
theorem d6_10 : decode prog_18_method_7_code 10 = .ok (.aload_n 0, 1) := by decide +kernel
theorem d6_11 : decode prog_18_method_7_code 11 = .ok (.getfield 47, 3) := by decide +kernel
theorem d6_14 : decode prog_18_method_7_code 14 = .ok (.if_icmp .ge 77, 3) := by decide +kernel
theorem d6_17 : decode prog_18_method_7_code 17 = .ok (.aload_n 0, 1) := by decide +kernel
theorem d6_18 : decode prog_18_method_7_code 18 = .ok (.getfield 38, 3) := by decide +kernel
theorem d6_21 : decode prog_18_method_7_code 21 = .ok (.iload_n 3, 1) := by decide +kernel
theorem d6_22 : decode prog_18_method_7_code 22 = .ok (.iaload, 1) := by decide +kernel
theorem d6_23 : decode prog_18_method_7_code 23 = .ok (.istore 4, 2) := by decide +kernel
theorem d6_25 : decode prog_18_method_7_code 25 = .ok (.aload_n 1, 1) := by decide +kernel
theorem d6_26 : decode prog_18_method_7_code 26 = .ok (.iload 4, 2) := by decide +kernel
theorem d6_28 : decode prog_18_method_7_code 28 = .ok (.daload, 1) := by decide +kernel
theorem d6_29 : decode prog_18_method_7_code 29 = .ok (.dstore 5, 2) := by decide +kernel
theorem d6_31 : decode prog_18_method_7_code 31 = .ok (.iconst 0, 1) := by decide +kernel
theorem d6_32 : decode prog_18_method_7_code 32 = .ok (.istore 7, 2) := by decide +kernel
theorem d6_34 : decode prog_18_method_7_code 34 = .ok (.iload 7, 2) := by decide +kernel
theorem d6_36 : decode prog_18_method_7_code 36 = .ok (.aload_n 0, 1) := by decide +kernel
theorem d6_37 : decode prog_18_method_7_code 37 = .ok (.getfield 29, 3) := by decide +kernel
theorem d6_40 : decode prog_18_method_7_code 40 = .ok (.iload 4, 2) := by decide +kernel
theorem d6_42 : decode prog_18_method_7_code 42 = .ok (.iaload, 1) := by decide +kernel
theorem d6_43 : decode prog_18_method_7_code 43 = .ok (.if_icmp .ge 37, 3) := by decide +kernel
theorem d6_46 : decode prog_18_method_7_code 46 = .ok (.dload 5, 2) := by decide +kernel
theorem d6_48 : decode prog_18_method_7_code 48 = .ok (.aload_n 0, 1) := by decide +kernel
theorem d6_49 : decode prog_18_method_7_code 49 = .ok (.getfield 25, 3) := by decide +kernel
theorem d6_52 : decode prog_18_method_7_code 52 = .ok (.iload 4, 2) := by decide +kernel
theorem d6_54 : decode prog_18_method_7_code 54 = .ok (.aaload, 1) := by decide +kernel
theorem d6_55 : decode prog_18_method_7_code 55 = .ok (.iload 7, 2) := by decide +kernel
theorem d6_57 : decode prog_18_method_7_code 57 = .ok (.daload, 1) := by decide +kernel
theorem d6_58 : decode prog_18_method_7_code 58 = .ok (.aload_n 2, 1) := by decide +kernel
theorem d6_59 : decode prog_18_method_7_code 59 = .ok (.aload_n 0, 1) := by decide +kernel
theorem d6_60 : decode prog_18_method_7_code 60 = .ok (.getfield 19, 3) := by decide +kernel
theorem d6_63 : decode prog_18_method_7_code 63 = .ok (.iload 4, 2) := by decide +kernel
theorem d6_65 : decode prog_18_method_7_code 65 = .ok (.aaload, 1) := by decide +kernel
theorem d6_66 : decode prog_18_method_7_code 66 = .ok (.iload 7, 2) := by decide +kernel
theorem d6_68 : decode prog_18_method_7_code 68 = .ok (.iaload, 1) := by decide +kernel
theorem d6_69 : decode prog_18_method_7_code 69 = .ok (.daload, 1) := by decide +kernel
theorem d6_70 : decode prog_18_method_7_code 70 = .ok (.dmul, 1) := by decide +kernel
theorem d6_71 : decode prog_18_method_7_code 71 = .ok (.dsub, 1) := by decide +kernel
theorem d6_72 : decode prog_18_method_7_code 72 = .ok (.dstore 5, 2) := by decide +kernel
theorem d6_74 : decode prog_18_method_7_code 74 = .ok (.iinc 7 1, 3) := by decide +kernel
theorem d6_77 : decode prog_18_method_7_code 77 = .ok (.goto (-43), 3) := by decide +kernel
theorem d6_80 : decode prog_18_method_7_code 80 = .ok (.aload_n 2, 1) := by decide +kernel
theorem d6_81 : decode prog_18_method_7_code 81 = .ok (.iload_n 3, 1) := by decide +kernel
theorem d6_82 : decode prog_18_method_7_code 82 = .ok (.dload 5, 2) := by decide +kernel
theorem d6_84 : decode prog_18_method_7_code 84 = .ok (.dastore, 1) := by decide +kernel
theorem d6_85 : decode prog_18_method_7_code 85 = .ok (.iinc 3 1, 3) := by decide +kernel
theorem d6_88 : decode prog_18_method_7_code 88 = .ok (.goto (-79), 3) := by decide +kernel
theorem d6_91 : decode prog_18_method_7_code 91 = .ok (.aload_n 0, 1) := by decide +kernel
theorem d6_92 : decode prog_18_method_7_code 92 = .ok (.getfield 7, 3) := by decide +kernel
theorem d6_95 : decode prog_18_method_7_code 95 = .ok (.newarray .double, 2) := by decide +kernel
theorem d6_97 : decode prog_18_method_7_code 97 = .ok (.astore_n 3, 1) := by decide +kernel
theorem d6_98 : decode prog_18_method_7_code 98 = .ok (.aload_n 0, 1) := by decide +kernel
theorem d6_99 : decode prog_18_method_7_code 99 = .ok (.getfield 47, 3) := by decide +kernel
theorem d6_102 : decode prog_18_method_7_code 102 = .ok (.iconst 1, 1) := by decide +kernel
theorem d6_103 : decode prog_18_method_7_code 103 = .ok (.isub, 1) := by decide +kernel
theorem d6_104 : decode prog_18_method_7_code 104 = .ok (.istore 4, 2) := by decide +kernel
theorem d6_106 : decode prog_18_method_7_code 106 = .ok (.iload 4, 2) := by decide +kernel
theorem d6_108 : decode prog_18_method_7_code 108 = .ok (.ifCond .lt 81, 3) := by decide +kernel
theorem d6_111 : decode prog_18_method_7_code 111 = .ok (.aload_n 0, 1) := by decide +kernel
theorem d6_112 : decode prog_18_method_7_code 112 = .ok (.getfield 41, 3) := by decide +kernel
theorem d6_115 : decode prog_18_method_7_code 115 = .ok (.iload 4, 2) := by decide +kernel
theorem d6_117 : decode prog_18_method_7_code 117 = .ok (.aaload, 1) := by decide +kernel
theorem d6_118 : decode prog_18_method_7_code 118 = .ok (.astore 5, 2) := by decide +kernel
theorem d6_120 : decode prog_18_method_7_code 120 = .ok (.aload_n 0, 1) := by decide +kernel
theorem d6_121 : decode prog_18_method_7_code 121 = .ok (.getfield 44, 3) := by decide +kernel
theorem d6_124 : decode prog_18_method_7_code 124 = .ok (.iload 4, 2) := by decide +kernel
theorem d6_126 : decode prog_18_method_7_code 126 = .ok (.aaload, 1) := by decide +kernel
theorem d6_127 : decode prog_18_method_7_code 127 = .ok (.astore 6, 2) := by decide +kernel
theorem d6_129 : decode prog_18_method_7_code 129 = .ok (.aload_n 2, 1) := by decide +kernel
theorem d6_130 : decode prog_18_method_7_code 130 = .ok (.iload 4, 2) := by decide +kernel
theorem d6_132 : decode prog_18_method_7_code 132 = .ok (.daload, 1) := by decide +kernel
theorem d6_133 : decode prog_18_method_7_code 133 = .ok (.dstore 7, 2) := by decide +kernel
theorem d6_135 : decode prog_18_method_7_code 135 = .ok (.iconst 1, 1) := by decide +kernel
theorem d6_136 : decode prog_18_method_7_code 136 = .ok (.istore 9, 2) := by decide +kernel
theorem d6_138 : decode prog_18_method_7_code 138 = .ok (.iload 9, 2) := by decide +kernel
theorem d6_140 : decode prog_18_method_7_code 140 = .ok (.aload 5, 2) := by decide +kernel
theorem d6_142 : decode prog_18_method_7_code 142 = .ok (.arraylength, 1) := by decide +kernel
theorem d6_143 : decode prog_18_method_7_code 143 = .ok (.if_icmp .ge 27, 3) := by decide +kernel
theorem d6_146 : decode prog_18_method_7_code 146 = .ok (.dload 7, 2) := by decide +kernel
theorem d6_148 : decode prog_18_method_7_code 148 = .ok (.aload 6, 2) := by decide +kernel
theorem d6_150 : decode prog_18_method_7_code 150 = .ok (.iload 9, 2) := by decide +kernel
theorem d6_152 : decode prog_18_method_7_code 152 = .ok (.daload, 1) := by decide +kernel
theorem d6_153 : decode prog_18_method_7_code 153 = .ok (.aload_n 3, 1) := by decide +kernel
theorem d6_154 : decode prog_18_method_7_code 154 = .ok (.aload 5, 2) := by decide +kernel
theorem d6_156 : decode prog_18_method_7_code 156 = .ok (.iload 9, 2) := by decide +kernel
theorem d6_158 : decode prog_18_method_7_code 158 = .ok (.iaload, 1) := by decide +kernel
theorem d6_159 : decode prog_18_method_7_code 159 = .ok (.daload, 1) := by decide +kernel
theorem d6_160 : decode prog_18_method_7_code 160 = .ok (.dmul, 1) := by decide +kernel
theorem d6_161 : decode prog_18_method_7_code 161 = .ok (.dsub, 1) := by decide +kernel
theorem d6_162 : decode prog_18_method_7_code 162 = .ok (.dstore 7, 2) := by decide +kernel
theorem d6_164 : decode prog_18_method_7_code 164 = .ok (.iinc 9 1, 3) := by decide +kernel
theorem d6_167 : decode prog_18_method_7_code 167 = .ok (.goto (-29), 3) := by decide +kernel
theorem d6_170 : decode prog_18_method_7_code 170 = .ok (.aload_n 3, 1) := by decide +kernel
theorem d6_171 : decode prog_18_method_7_code 171 = .ok (.aload 5, 2) := by decide +kernel
theorem d6_173 : decode prog_18_method_7_code 173 = .ok (.iconst 0, 1) := by decide +kernel
theorem d6_174 : decode prog_18_method_7_code 174 = .ok (.iaload, 1) := by decide +kernel
theorem d6_175 : decode prog_18_method_7_code 175 = .ok (.dload 7, 2) := by decide +kernel
theorem d6_177 : decode prog_18_method_7_code 177 = .ok (.aload 6, 2) := by decide +kernel
theorem d6_179 : decode prog_18_method_7_code 179 = .ok (.iconst 0, 1) := by decide +kernel
theorem d6_180 : decode prog_18_method_7_code 180 = .ok (.daload, 1) := by decide +kernel
theorem d6_181 : decode prog_18_method_7_code 181 = .ok (.ddiv, 1) := by decide +kernel
theorem d6_182 : decode prog_18_method_7_code 182 = .ok (.dastore, 1) := by decide +kernel
theorem d6_183 : decode prog_18_method_7_code 183 = .ok (.iinc 4 (-1), 3) := by decide +kernel
theorem d6_186 : decode prog_18_method_7_code 186 = .ok (.goto (-80), 3) := by decide +kernel
theorem d6_189 : decode prog_18_method_7_code 189 = .ok (.aload_n 3, 1) := by decide +kernel
theorem d6_190 : decode prog_18_method_7_code 190 = .ok (.areturn, 1) := by decide +kernel
theorem ef_rm6_00 (m : MethodId) (a0 : Addr) (a1 : Addr) : entryFrame m #[(.ref a0), (.ref a1)] 10 = (mkF m 0 #[.val (.ref a0), .val (.ref a1), .unset, .unset, .unset, .unset, .unset, .unset, .unset, .unset] []) := by first | (simp [entryFrame, mkF, argsToLocals, Value.category]; done) | rfl
def Q6_00 (Z : State) (a0 : Addr) (a1 : Addr) (rb : Addr) (ml : Addr) (ln : Addr) (pe : Addr) (pu : Addr) (pc : Addr) (u0 : Addr) (u1 : Addr) (k0 : Addr) (k1 : Addr) (kr : ClassId) (km : ClassId) (kl : ClassId) (ke : ClassId) (ku : ClassId) (kc : ClassId) (kq : ClassId) (kh1 : ClassId) (kh2 : ClassId) (kh3 : ClassId) (kh4 : ClassId) (rd : Int64) (lrb : List Value) (lml : List Value) (r0 : UInt64) (r1 : UInt64) (c00 : UInt64) (c01 : UInt64) (dd : UInt64) (h0 : Heap) (n0 : Nat) (v : Option Value) (h : Heap) (L : List Loc) : Prop := ∃ (r : Addr) (kx : ClassId), v = some (.ref r) ∧ Fr n0 L ∧ Keep h0 h [] ∧ Arv Z h r kx .double (2 : Int32) [(.double (FP.ddiv (FP.dsub r0 (FP.dmul c01 (FP.ddiv r1 dd))) c00)), (.double (FP.ddiv r1 dd))] (.double 0)
set_option maxRecDepth 65536 in
set_option maxHeartbeats 40000000 in
theorem rm6_00 (l : Launch) (Z : State) (aa : Array Value) (hw : ∀ d ∈ tables_1, d.before aa Z = true) (ws : List Jvm.Cond) (a0 : Addr) (a1 : Addr) (rb : Addr) (ml : Addr) (ln : Addr) (pe : Addr) (pu : Addr) (pc : Addr) (u0 : Addr) (u1 : Addr) (k0 : Addr) (k1 : Addr) (kr : ClassId) (km : ClassId) (kl : ClassId) (ke : ClassId) (ku : ClassId) (kc : ClassId) (kq : ClassId) (kh1 : ClassId) (kh2 : ClassId) (kh3 : ClassId) (kh4 : ClassId) (rd : Int64) (lrb : List Value) (lml : List Value) (r0 : UInt64) (r1 : UInt64) (c00 : UInt64) (c01 : UInt64) (dd : UInt64) (h0 : Heap) (n0 : Nat) (Z0 : n0 ≤ h0.size) (FA : own_Fac Z h0 a0 rb ml ln pe pu pc kr km kl ke ku kc (2 : Int32) (2 : Int32) rd lrb lml [(.int (0 : Int32)), (.int (0 : Int32))] [(.int (0 : Int32)), (.int (1 : Int32))] [(.ref u0), (.ref u1)] [(.ref k0), (.ref k1)]) (V_a1 : Arv Z h0 a1 kq .double (2 : Int32) [(.double r0), (.double r1)] (.double 0)) (V_u0 : Arv Z h0 u0 kh1 .int (2 : Int32) [(.int (0 : Int32)), (.int (1 : Int32))] (.int (0 : Int32))) (V_u1 : Arv Z h0 u1 kh2 .int (1 : Int32) [(.int (1 : Int32))] (.int (0 : Int32))) (V_k0 : Arv Z h0 k0 kh3 .double (2 : Int32) [(.double c00), (.double c01)] (.double 0)) (V_k1 : Arv Z h0 k1 kh4 .double (1 : Int32) [(.double dd)] (.double 0)) (hn1 : NoNaN64 (FP.ddiv r1 dd)) (hn2 : NoNaN64 (FP.dmul c01 (FP.ddiv r1 dd))) (hn3 : NoNaN64 (FP.dsub r0 (FP.dmul c01 (FP.ddiv r1 dd)))) (hn4 : NoNaN64 (FP.ddiv (FP.dsub r0 (FP.dmul c01 (FP.ddiv r1 dd))) c00)) :
    MetFree l (⟨"com/example/sondage/sondage/inference/Factorization", "solve", "([D)[D"⟩ : MethodName) (head1 (Jvm.Cond.code (⟨"com/example/sondage/sondage/inference/Factorization", "solve", "([D)[D"⟩ : MethodName) prog_18_method_7_code 10 (some (.array .double)) :: ws) ({ frames := 0, cells := 2, slots := 4, locals := 0 } : Room)) (fun a U => a = #[(.ref a0), (.ref a1)] ∧ Z.Warmed39 U.vm ∧ U.heap = h0) (fun _ _ _ _ _ => True) (fun _ U o U' => ∃ v L, o = .returned v ∧ Q6_00 Z a0 a1 rb ml ln pe pu pc u0 u1 k0 k1 kr km kl ke ku kc kq kh1 kh2 kh3 kh4 rd lrb lml r0 r1 c00 c01 dd h0 n0 v U'.heap L ∧ FrameEnd U o U' L ({ frames := 0, cells := 2, slots := 4, locals := 0 } : Room).cells ({ frames := 0, cells := 2, slots := 4, locals := 0 } : Room).slots) := by
  refine MetFree.of_bodySF (plainFor_of_name pn_com_example_sondage_sondage_inference_Factorization) hisR ?_
  intro p e s m args below meth c s₁ Bd hml0 hP hK
  obtain ⟨rfl, hZ, hh⟩ := hP
  have hx := Bd.exec
  have hby := Bd.bytes
  have hml : c.maxLocals = 10 := hml0
  have hown : s.vm.findClass "com/example/sondage/sondage/inference/Factorization" = some m.cls := findClass_of_methodNamed Bd.named
  have hnm := (name_of_methodNamed Bd.named Bd.method).1
  have X0 : Stand p l e ({ frames := 0, cells := 2, slots := 4, locals := 0 } : Room) s m #[(.ref a0), (.ref a1)] below meth c s₁ [] 0 0 := Stand.of_body Bd
  have e0 : s₁.heap = h0 := by rw [← hh, Bd.state]; rfl
  have N0 := Fr.nil n0
  obtain ⟨G0, hG0⟩ : ∃ G, G = s₁.setTop (entryFrame m #[(.ref a0), (.ref a1)] 10) := ⟨_, rfl⟩
  have K0 : ∀ t, Steps p.tables e below (s₁.setTop (mkF m 0 #[.val (.ref a0), .val (.ref a1), .unset, .unset, .unset, .unset, .unset, .unset, .unset, .unset] [])) t → Steps p.tables e below G0 t := fun t k => by rw [hG0]; exact castTop (ef_rm6_00 m a0 a1) k
  obtain ⟨fc_0, fc_1, fc_2, fc_3, fc_4, fc_5, fc_6, fc_7, fc_8, fc_9, fc_10, fc_11, fc_12, fc_13, fc_14, fc_15⟩ := id FA
  have K1 : ∀ t, Steps p.tables e below (s₁.setTop (mkF m 1 #[.val (.ref a0), .val (.ref a1), .unset, .unset, .unset, .unset, .unset, .unset, .unset, .unset] [(.ref a0)])) t → Steps p.tables e below G0 t := by
    intro t kt
    refine K0 t ?_
    refine XS.aloadN X0.here hx rfl (hb hby d6_0) rfl rfl ?_
    show Steps p.tables e below (s₁.setTop (mkF m 1 #[.val (.ref a0), .val (.ref a1), .unset, .unset, .unset, .unset, .unset, .unset, .unset, .unset] [(.ref a0)])) _
    exact kt
  obtain ⟨T2, X2, e2, st2⟩ := getF X0 hx hZ hown (host := "") (Or.inl (hw _ (List.mem_of_getElem? (i := 41) rfl))) Via.refl e0 fc_2 (g := (mkF m 1 #[.val (.ref a0), .val (.ref a1), .unset, .unset, .unset, .unset, .unset, .unset, .unset, .unset] [(.ref a0)])) rfl rfl (hb hby d6_1)
  have K2 : ∀ t, Steps p.tables e below (T2.setTop (mkF m 4 #[.val (.ref a0), .val (.ref a1), .unset, .unset, .unset, .unset, .unset, .unset, .unset, .unset] [(.int (2 : Int32))])) t → Steps p.tables e below G0 t := fun t kt => K1 t (st2 _ kt)
  obtain ⟨T3, h3, k3, X3, e3, E3, A3, EA3, st3⟩ := newPE X2 hx hZ (hw _ (List.mem_of_getElem? (i := 35) rfl)) e2 (g := (mkF m 4 #[.val (.ref a0), .val (.ref a1), .unset, .unset, .unset, .unset, .unset, .unset, .unset, .unset] [(.int (2 : Int32))])) rfl (hb hby d6_4) rfl (by decide) (cap := 2) (by decide) (by decide) (by decide) (by decide) (ad := "[D") (by decide)
  obtain ⟨b3, g3⟩ : ∃ z, z = h0.size := ⟨_, rfl⟩
  rw [← g3] at A3 EA3 st3
  have V3 := Arv.new A3 (by decide)
  have gn3 : n0 ≤ b3 := Nat.le_trans Z0 (Nat.le_of_eq g3.symm)
  have Z3 : n0 ≤ h3.size := Nat.le_trans Z0 E3.1
  have K3 : ∀ t, Steps p.tables e below (T3.setTop (mkF m 6 #[.val (.ref a0), .val (.ref a1), .unset, .unset, .unset, .unset, .unset, .unset, .unset, .unset] [(.ref b3)])) t → Steps p.tables e below G0 t := fun t kt => K2 t (st3 _ kt)
  have ne_a0_b3 : a0 ≠ b3 := Nat.ne_of_lt (Nat.lt_of_lt_of_le (fc_0).lt (Nat.le_of_eq g3.symm))
  have ne_rb_b3 : rb ≠ b3 := Nat.ne_of_lt (Nat.lt_of_lt_of_le (fc_10).lt (Nat.le_of_eq g3.symm))
  have ne_ml_b3 : ml ≠ b3 := Nat.ne_of_lt (Nat.lt_of_lt_of_le (fc_11).lt (Nat.le_of_eq g3.symm))
  have ne_ln_b3 : ln ≠ b3 := Nat.ne_of_lt (Nat.lt_of_lt_of_le (fc_12).lt (Nat.le_of_eq g3.symm))
  have ne_pe_b3 : pe ≠ b3 := Nat.ne_of_lt (Nat.lt_of_lt_of_le (fc_13).lt (Nat.le_of_eq g3.symm))
  have ne_pu_b3 : pu ≠ b3 := Nat.ne_of_lt (Nat.lt_of_lt_of_le (fc_14).lt (Nat.le_of_eq g3.symm))
  have ne_pc_b3 : pc ≠ b3 := Nat.ne_of_lt (Nat.lt_of_lt_of_le (fc_15).lt (Nat.le_of_eq g3.symm))
  have ne_a1_b3 : a1 ≠ b3 := Nat.ne_of_lt (Nat.lt_of_lt_of_le (V_a1).lt (Nat.le_of_eq g3.symm))
  have ne_u0_b3 : u0 ≠ b3 := Nat.ne_of_lt (Nat.lt_of_lt_of_le (V_u0).lt (Nat.le_of_eq g3.symm))
  have ne_u1_b3 : u1 ≠ b3 := Nat.ne_of_lt (Nat.lt_of_lt_of_le (V_u1).lt (Nat.le_of_eq g3.symm))
  have ne_k0_b3 : k0 ≠ b3 := Nat.ne_of_lt (Nat.lt_of_lt_of_le (V_k0).lt (Nat.le_of_eq g3.symm))
  have ne_k1_b3 : k1 ≠ b3 := Nat.ne_of_lt (Nat.lt_of_lt_of_le (V_k1).lt (Nat.le_of_eq g3.symm))
  have VL3 : Arv Z h3 b3 k3 .double (2 : Int32) [(.double 0), (.double 0)] (.double 0) := V3.pad (pad_rep [] (.double 0) 2)
  have K4 : ∀ t, Steps p.tables e below (T3.setTop (mkF m 11 #[.val (.ref a0), .val (.ref a1), .val (.ref b3), .val (.int (0 : Int32)), .unset, .unset, .unset, .unset, .unset, .unset] [(.ref a0), (.int (0 : Int32))])) t → Steps p.tables e below G0 t := by
    intro t kt
    refine K3 t ?_
    refine XS.astoreN X3.here hx rfl (hb hby d6_6) rfl rfl (l' := #[.val (.ref a0), .val (.ref a1), .val (.ref b3), .unset, .unset, .unset, .unset, .unset, .unset, .unset]) rfl ?_
    show Steps p.tables e below (T3.setTop (mkF m 7 #[.val (.ref a0), .val (.ref a1), .val (.ref b3), .unset, .unset, .unset, .unset, .unset, .unset, .unset] [])) _
    refine XS.iconst X3.here hx rfl (hb hby d6_7) ?_
    show Steps p.tables e below (T3.setTop (mkF m 8 #[.val (.ref a0), .val (.ref a1), .val (.ref b3), .unset, .unset, .unset, .unset, .unset, .unset, .unset] [(.int (0 : Int32))])) _
    refine XS.istoreN X3.here hx rfl (hb hby d6_8) rfl (l' := #[.val (.ref a0), .val (.ref a1), .val (.ref b3), .val (.int (0 : Int32)), .unset, .unset, .unset, .unset, .unset, .unset]) rfl ?_
    show Steps p.tables e below (T3.setTop (mkF m 9 #[.val (.ref a0), .val (.ref a1), .val (.ref b3), .val (.int (0 : Int32)), .unset, .unset, .unset, .unset, .unset, .unset] [])) _
    refine XS.iloadN X3.here hx rfl (hb hby d6_9) rfl ?_
    show Steps p.tables e below (T3.setTop (mkF m 10 #[.val (.ref a0), .val (.ref a1), .val (.ref b3), .val (.int (0 : Int32)), .unset, .unset, .unset, .unset, .unset, .unset] [(.int (0 : Int32))])) _
    refine XS.aloadN X3.here hx rfl (hb hby d6_10) rfl rfl ?_
    show Steps p.tables e below (T3.setTop (mkF m 11 #[.val (.ref a0), .val (.ref a1), .val (.ref b3), .val (.int (0 : Int32)), .unset, .unset, .unset, .unset, .unset, .unset] [(.ref a0), (.int (0 : Int32))])) _
    exact kt
  have f5 := (fc_2.ext E3)
  obtain ⟨T6, X6, e6, st6⟩ := getF X3 hx hZ hown (host := "") (Or.inl (hw _ (List.mem_of_getElem? (i := 41) rfl))) Via.refl e3 f5 (g := (mkF m 11 #[.val (.ref a0), .val (.ref a1), .val (.ref b3), .val (.int (0 : Int32)), .unset, .unset, .unset, .unset, .unset, .unset] [(.ref a0), (.int (0 : Int32))])) rfl rfl (hb hby d6_11)
  have K6 : ∀ t, Steps p.tables e below (T6.setTop (mkF m 14 #[.val (.ref a0), .val (.ref a1), .val (.ref b3), .val (.int (0 : Int32)), .unset, .unset, .unset, .unset, .unset, .unset] [(.int (2 : Int32)), (.int (0 : Int32))])) t → Steps p.tables e below G0 t := fun t kt => K4 t (st6 _ kt)
  have K7 : ∀ t, Steps p.tables e below (T6.setTop (mkF m 18 #[.val (.ref a0), .val (.ref a1), .val (.ref b3), .val (.int (0 : Int32)), .unset, .unset, .unset, .unset, .unset, .unset] [(.ref a0)])) t → Steps p.tables e below G0 t := by
    intro t kt
    refine K6 t ?_
    refine XS.icmpNo X6.here hx rfl (hb hby d6_14) rfl (tlt (by decide)).2.1 ?_
    show Steps p.tables e below (T6.setTop (mkF m 17 #[.val (.ref a0), .val (.ref a1), .val (.ref b3), .val (.int (0 : Int32)), .unset, .unset, .unset, .unset, .unset, .unset] [])) _
    refine XS.aloadN X6.here hx rfl (hb hby d6_17) rfl rfl ?_
    show Steps p.tables e below (T6.setTop (mkF m 18 #[.val (.ref a0), .val (.ref a1), .val (.ref b3), .val (.int (0 : Int32)), .unset, .unset, .unset, .unset, .unset, .unset] [(.ref a0)])) _
    exact kt
  have f8 := (fc_7.ext E3)
  obtain ⟨T9, X9, e9, st9⟩ := getF X6 hx hZ hown (host := "") (Or.inl (hw _ (List.mem_of_getElem? (i := 29) rfl))) Via.refl e6 f8 (g := (mkF m 18 #[.val (.ref a0), .val (.ref a1), .val (.ref b3), .val (.int (0 : Int32)), .unset, .unset, .unset, .unset, .unset, .unset] [(.ref a0)])) rfl rfl (hb hby d6_18)
  have K9 : ∀ t, Steps p.tables e below (T9.setTop (mkF m 21 #[.val (.ref a0), .val (.ref a1), .val (.ref b3), .val (.int (0 : Int32)), .unset, .unset, .unset, .unset, .unset, .unset] [(.ref pe)])) t → Steps p.tables e below G0 t := fun t kt => K7 t (st9 _ kt)
  have K10 : ∀ t, Steps p.tables e below (T9.setTop (mkF m 22 #[.val (.ref a0), .val (.ref a1), .val (.ref b3), .val (.int (0 : Int32)), .unset, .unset, .unset, .unset, .unset, .unset] [(.int (0 : Int32)), (.ref pe)])) t → Steps p.tables e below G0 t := by
    intro t kt
    refine K9 t ?_
    refine XS.iloadN X9.here hx rfl (hb hby d6_21) rfl ?_
    show Steps p.tables e below (T9.setTop (mkF m 22 #[.val (.ref a0), .val (.ref a1), .val (.ref b3), .val (.int (0 : Int32)), .unset, .unset, .unset, .unset, .unset, .unset] [(.int (0 : Int32)), (.ref pe)])) _
    exact kt
  have f11 := (fc_13.ext E3)
  obtain ⟨cl12, Ar12, qq12, S12, M12, H12, GG12⟩ := id f11
  have hin12 : ¬ ((0 : Int32) < 0 ∨ cl12.slots.size ≤ ((0 : Int32)).toNatClampNeg) := inb_of S12 ⟨by decide, by decide⟩
  have hat12 : cl12.slots[((0 : Int32)).toNatClampNeg]? = some (.int (0 : Int32)) := Has.at H12 hin12 rfl
  have K13 : ∀ t, Steps p.tables e below (T9.setTop (mkF m 28 #[.val (.ref a0), .val (.ref a1), .val (.ref b3), .val (.int (0 : Int32)), .val (.int (0 : Int32)), .unset, .unset, .unset, .unset, .unset] [(.int (0 : Int32)), (.ref a1)])) t → Steps p.tables e below G0 t := by
    intro t kt
    refine K10 t ?_
    refine X9.iaload hx (j := (0 : Int32)) (v := (.int (0 : Int32))) (by rw [e9]; exact (Ar12).1) (State.isArrayOf_alike hZ.alike (Ar12).2.1) (Ar12).2.2 hin12 hat12 (g := (mkF m 22 #[.val (.ref a0), .val (.ref a1), .val (.ref b3), .val (.int (0 : Int32)), .unset, .unset, .unset, .unset, .unset, .unset] [(.int (0 : Int32)), (.ref pe)])) rfl rfl (hb hby d6_22) _ ?_
    show Steps p.tables e below (T9.setTop (mkF m 23 #[.val (.ref a0), .val (.ref a1), .val (.ref b3), .val (.int (0 : Int32)), .unset, .unset, .unset, .unset, .unset, .unset] [(.int (0 : Int32))])) _
    refine XS.istore X9.here hx rfl (hb hby d6_23) rfl (l' := #[.val (.ref a0), .val (.ref a1), .val (.ref b3), .val (.int (0 : Int32)), .val (.int (0 : Int32)), .unset, .unset, .unset, .unset, .unset]) rfl ?_
    show Steps p.tables e below (T9.setTop (mkF m 25 #[.val (.ref a0), .val (.ref a1), .val (.ref b3), .val (.int (0 : Int32)), .val (.int (0 : Int32)), .unset, .unset, .unset, .unset, .unset] [])) _
    refine XS.aloadN X9.here hx rfl (hb hby d6_25) rfl rfl ?_
    show Steps p.tables e below (T9.setTop (mkF m 26 #[.val (.ref a0), .val (.ref a1), .val (.ref b3), .val (.int (0 : Int32)), .val (.int (0 : Int32)), .unset, .unset, .unset, .unset, .unset] [(.ref a1)])) _
    refine XS.iload X9.here hx rfl (hb hby d6_26) rfl ?_
    show Steps p.tables e below (T9.setTop (mkF m 28 #[.val (.ref a0), .val (.ref a1), .val (.ref b3), .val (.int (0 : Int32)), .val (.int (0 : Int32)), .unset, .unset, .unset, .unset, .unset] [(.int (0 : Int32)), (.ref a1)])) _
    exact kt
  have f14 := (V_a1.ext E3)
  obtain ⟨cl15, Ar15, qq15, S15, M15, H15, GG15⟩ := id f14
  have hin15 : ¬ ((0 : Int32) < 0 ∨ cl15.slots.size ≤ ((0 : Int32)).toNatClampNeg) := inb_of S15 ⟨by decide, by decide⟩
  have hat15 : cl15.slots[((0 : Int32)).toNatClampNeg]? = some (.double r0) := Has.at H15 hin15 rfl
  have K16 : ∀ t, Steps p.tables e below (T9.setTop (mkF m 37 #[.val (.ref a0), .val (.ref a1), .val (.ref b3), .val (.int (0 : Int32)), .val (.int (0 : Int32)), .val (.double r0), .second, .val (.int (0 : Int32)), .unset, .unset] [(.ref a0), (.int (0 : Int32))])) t → Steps p.tables e below G0 t := by
    intro t kt
    refine K13 t ?_
    refine X9.daload hx (j := (0 : Int32)) (v := (.double r0)) (by rw [e9]; exact (Ar15).1) (State.isArrayOf_alike hZ.alike (Ar15).2.1) (Ar15).2.2 hin15 hat15 (g := (mkF m 28 #[.val (.ref a0), .val (.ref a1), .val (.ref b3), .val (.int (0 : Int32)), .val (.int (0 : Int32)), .unset, .unset, .unset, .unset, .unset] [(.int (0 : Int32)), (.ref a1)])) rfl rfl (hb hby d6_28) _ ?_
    show Steps p.tables e below (T9.setTop (mkF m 29 #[.val (.ref a0), .val (.ref a1), .val (.ref b3), .val (.int (0 : Int32)), .val (.int (0 : Int32)), .unset, .unset, .unset, .unset, .unset] [(.double r0)])) _
    refine XS.dstore X9.here hx rfl (hb hby d6_29) rfl (l' := #[.val (.ref a0), .val (.ref a1), .val (.ref b3), .val (.int (0 : Int32)), .val (.int (0 : Int32)), .val (.double r0), .second, .unset, .unset, .unset]) rfl ?_
    show Steps p.tables e below (T9.setTop (mkF m 31 #[.val (.ref a0), .val (.ref a1), .val (.ref b3), .val (.int (0 : Int32)), .val (.int (0 : Int32)), .val (.double r0), .second, .unset, .unset, .unset] [])) _
    refine XS.iconst X9.here hx rfl (hb hby d6_31) ?_
    show Steps p.tables e below (T9.setTop (mkF m 32 #[.val (.ref a0), .val (.ref a1), .val (.ref b3), .val (.int (0 : Int32)), .val (.int (0 : Int32)), .val (.double r0), .second, .unset, .unset, .unset] [(.int (0 : Int32))])) _
    refine XS.istore X9.here hx rfl (hb hby d6_32) rfl (l' := #[.val (.ref a0), .val (.ref a1), .val (.ref b3), .val (.int (0 : Int32)), .val (.int (0 : Int32)), .val (.double r0), .second, .val (.int (0 : Int32)), .unset, .unset]) rfl ?_
    show Steps p.tables e below (T9.setTop (mkF m 34 #[.val (.ref a0), .val (.ref a1), .val (.ref b3), .val (.int (0 : Int32)), .val (.int (0 : Int32)), .val (.double r0), .second, .val (.int (0 : Int32)), .unset, .unset] [])) _
    refine XS.iload X9.here hx rfl (hb hby d6_34) rfl ?_
    show Steps p.tables e below (T9.setTop (mkF m 36 #[.val (.ref a0), .val (.ref a1), .val (.ref b3), .val (.int (0 : Int32)), .val (.int (0 : Int32)), .val (.double r0), .second, .val (.int (0 : Int32)), .unset, .unset] [(.int (0 : Int32))])) _
    refine XS.aloadN X9.here hx rfl (hb hby d6_36) rfl rfl ?_
    show Steps p.tables e below (T9.setTop (mkF m 37 #[.val (.ref a0), .val (.ref a1), .val (.ref b3), .val (.int (0 : Int32)), .val (.int (0 : Int32)), .val (.double r0), .second, .val (.int (0 : Int32)), .unset, .unset] [(.ref a0), (.int (0 : Int32))])) _
    exact kt
  have f17 := (fc_6.ext E3)
  obtain ⟨T18, X18, e18, st18⟩ := getF X9 hx hZ hown (host := "") (Or.inl (hw _ (List.mem_of_getElem? (i := 23) rfl))) Via.refl e9 f17 (g := (mkF m 37 #[.val (.ref a0), .val (.ref a1), .val (.ref b3), .val (.int (0 : Int32)), .val (.int (0 : Int32)), .val (.double r0), .second, .val (.int (0 : Int32)), .unset, .unset] [(.ref a0), (.int (0 : Int32))])) rfl rfl (hb hby d6_37)
  have K18 : ∀ t, Steps p.tables e below (T18.setTop (mkF m 40 #[.val (.ref a0), .val (.ref a1), .val (.ref b3), .val (.int (0 : Int32)), .val (.int (0 : Int32)), .val (.double r0), .second, .val (.int (0 : Int32)), .unset, .unset] [(.ref ln), (.int (0 : Int32))])) t → Steps p.tables e below G0 t := fun t kt => K16 t (st18 _ kt)
  have K19 : ∀ t, Steps p.tables e below (T18.setTop (mkF m 42 #[.val (.ref a0), .val (.ref a1), .val (.ref b3), .val (.int (0 : Int32)), .val (.int (0 : Int32)), .val (.double r0), .second, .val (.int (0 : Int32)), .unset, .unset] [(.int (0 : Int32)), (.ref ln), (.int (0 : Int32))])) t → Steps p.tables e below G0 t := by
    intro t kt
    refine K18 t ?_
    refine XS.iload X18.here hx rfl (hb hby d6_40) rfl ?_
    show Steps p.tables e below (T18.setTop (mkF m 42 #[.val (.ref a0), .val (.ref a1), .val (.ref b3), .val (.int (0 : Int32)), .val (.int (0 : Int32)), .val (.double r0), .second, .val (.int (0 : Int32)), .unset, .unset] [(.int (0 : Int32)), (.ref ln), (.int (0 : Int32))])) _
    exact kt
  have f20 := (fc_12.ext E3)
  obtain ⟨cl21, Ar21, qq21, S21, M21, H21, GG21⟩ := id f20
  have hin21 : ¬ ((0 : Int32) < 0 ∨ cl21.slots.size ≤ ((0 : Int32)).toNatClampNeg) := inb_of S21 ⟨by decide, by decide⟩
  have hat21 : cl21.slots[((0 : Int32)).toNatClampNeg]? = some (.int (0 : Int32)) := Has.at H21 hin21 rfl
  have K22 : ∀ t, Steps p.tables e below (T18.setTop (mkF m 84 #[.val (.ref a0), .val (.ref a1), .val (.ref b3), .val (.int (0 : Int32)), .val (.int (0 : Int32)), .val (.double r0), .second, .val (.int (0 : Int32)), .unset, .unset] [(.double r0), (.int (0 : Int32)), (.ref b3)])) t → Steps p.tables e below G0 t := by
    intro t kt
    refine K19 t ?_
    refine X18.iaload hx (j := (0 : Int32)) (v := (.int (0 : Int32))) (by rw [e18]; exact (Ar21).1) (State.isArrayOf_alike hZ.alike (Ar21).2.1) (Ar21).2.2 hin21 hat21 (g := (mkF m 42 #[.val (.ref a0), .val (.ref a1), .val (.ref b3), .val (.int (0 : Int32)), .val (.int (0 : Int32)), .val (.double r0), .second, .val (.int (0 : Int32)), .unset, .unset] [(.int (0 : Int32)), (.ref ln), (.int (0 : Int32))])) rfl rfl (hb hby d6_42) _ ?_
    show Steps p.tables e below (T18.setTop (mkF m 43 #[.val (.ref a0), .val (.ref a1), .val (.ref b3), .val (.int (0 : Int32)), .val (.int (0 : Int32)), .val (.double r0), .second, .val (.int (0 : Int32)), .unset, .unset] [(.int (0 : Int32)), (.int (0 : Int32))])) _
    refine XS.icmpYes X18.here hx rfl (pc0 := 43) (pc' := 80) rfl (hb hby d6_43) rfl (flt (by decide)).2.1 (by decide) (by decide) ?_
    show Steps p.tables e below (T18.setTop (mkF m 80 #[.val (.ref a0), .val (.ref a1), .val (.ref b3), .val (.int (0 : Int32)), .val (.int (0 : Int32)), .val (.double r0), .second, .val (.int (0 : Int32)), .unset, .unset] [])) _
    refine XS.aloadN X18.here hx rfl (hb hby d6_80) rfl rfl ?_
    show Steps p.tables e below (T18.setTop (mkF m 81 #[.val (.ref a0), .val (.ref a1), .val (.ref b3), .val (.int (0 : Int32)), .val (.int (0 : Int32)), .val (.double r0), .second, .val (.int (0 : Int32)), .unset, .unset] [(.ref b3)])) _
    refine XS.iloadN X18.here hx rfl (hb hby d6_81) rfl ?_
    show Steps p.tables e below (T18.setTop (mkF m 82 #[.val (.ref a0), .val (.ref a1), .val (.ref b3), .val (.int (0 : Int32)), .val (.int (0 : Int32)), .val (.double r0), .second, .val (.int (0 : Int32)), .unset, .unset] [(.int (0 : Int32)), (.ref b3)])) _
    refine XS.dload X18.here hx rfl (hb hby d6_82) rfl ?_
    show Steps p.tables e below (T18.setTop (mkF m 84 #[.val (.ref a0), .val (.ref a1), .val (.ref b3), .val (.int (0 : Int32)), .val (.int (0 : Int32)), .val (.double r0), .second, .val (.int (0 : Int32)), .unset, .unset] [(.double r0), (.int (0 : Int32)), (.ref b3)])) _
    exact kt
  obtain ⟨cl23, Ar23, qq23, S23, M23, H23, GG23⟩ := id VL3
  have hin23 : ¬ ((0 : Int32) < 0 ∨ cl23.slots.size ≤ ((0 : Int32)).toNatClampNeg) := inb_of S23 ⟨by decide, by decide⟩
  obtain ⟨T24, h24, X24, e24, W24, st24⟩ := stD X18 hx hZ e18 Ar23 (j := (0 : Int32)) hin23 (g := (mkF m 84 #[.val (.ref a0), .val (.ref a1), .val (.ref b3), .val (.int (0 : Int32)), .val (.int (0 : Int32)), .val (.double r0), .second, .val (.int (0 : Int32)), .unset, .unset] [(.double r0), (.int (0 : Int32)), (.ref b3)])) rfl rfl (hb hby d6_84)
  have K24 : ∀ t, Steps p.tables e below (T24.setTop (mkF m 85 #[.val (.ref a0), .val (.ref a1), .val (.ref b3), .val (.int (0 : Int32)), .val (.int (0 : Int32)), .val (.double r0), .second, .val (.int (0 : Int32)), .unset, .unset] [])) t → Steps p.tables e below G0 t := fun t kt => K22 t (st24 _ kt)
  have Z24 : n0 ≤ h24.size := Nat.le_trans Z3 (Keep.of_wr W24).1
  have VL24 : Arv Z h24 b3 k3 .double (2 : Int32) [(.double r0), (.double 0)] (.double 0) := Arv.set Ar23 qq23 S23 M23 H23 GG23 rfl W24 0 rfl (Nat.le_of_ble_eq_true rfl)
  have N24 := Fr.snoc X24 N0 gn3
  have K25 : ∀ t, Steps p.tables e below (T24.setTop (mkF m 88 #[.val (.ref a0), .val (.ref a1), .val (.ref b3), .val (.int ((0 : Int32) + (1 : Int32))), .val (.int (0 : Int32)), .val (.double r0), .second, .val (.int (0 : Int32)), .unset, .unset] [])) t → Steps p.tables e below G0 t := by
    intro t kt
    refine K24 t ?_
    refine XS.iinc X24.here hx rfl (hb hby d6_85) rfl (l' := #[.val (.ref a0), .val (.ref a1), .val (.ref b3), .val (.int ((0 : Int32) + (1 : Int32))), .val (.int (0 : Int32)), .val (.double r0), .second, .val (.int (0 : Int32)), .unset, .unset]) rfl ?_
    show Steps p.tables e below (T24.setTop (mkF m 88 #[.val (.ref a0), .val (.ref a1), .val (.ref b3), .val (.int ((0 : Int32) + (1 : Int32))), .val (.int (0 : Int32)), .val (.double r0), .second, .val (.int (0 : Int32)), .unset, .unset] [])) _
    exact kt
  rw [show ((0 : Int32) + (1 : Int32)) = (1 : Int32) from by decide] at K25
  have K26 : ∀ t, Steps p.tables e below (T24.setTop (mkF m 11 #[.val (.ref a0), .val (.ref a1), .val (.ref b3), .val (.int (1 : Int32)), .val (.int (0 : Int32)), .val (.double r0), .second, .val (.int (0 : Int32)), .unset, .unset] [(.ref a0), (.int (1 : Int32))])) t → Steps p.tables e below G0 t := by
    intro t kt
    refine K25 t ?_
    refine XS.goto X24.here hx rfl (pc0 := 88) (pc' := 9) rfl (hb hby d6_88) (by decide) (by decide) ?_
    show Steps p.tables e below (T24.setTop (mkF m 9 #[.val (.ref a0), .val (.ref a1), .val (.ref b3), .val (.int (1 : Int32)), .val (.int (0 : Int32)), .val (.double r0), .second, .val (.int (0 : Int32)), .unset, .unset] [])) _
    refine XS.iloadN X24.here hx rfl (hb hby d6_9) rfl ?_
    show Steps p.tables e below (T24.setTop (mkF m 10 #[.val (.ref a0), .val (.ref a1), .val (.ref b3), .val (.int (1 : Int32)), .val (.int (0 : Int32)), .val (.double r0), .second, .val (.int (0 : Int32)), .unset, .unset] [(.int (1 : Int32))])) _
    refine XS.aloadN X24.here hx rfl (hb hby d6_10) rfl rfl ?_
    show Steps p.tables e below (T24.setTop (mkF m 11 #[.val (.ref a0), .val (.ref a1), .val (.ref b3), .val (.int (1 : Int32)), .val (.int (0 : Int32)), .val (.double r0), .second, .val (.int (0 : Int32)), .unset, .unset] [(.ref a0), (.int (1 : Int32))])) _
    exact kt
  have f27 := (f5.other W24 (Or.inl ne_a0_b3))
  obtain ⟨T28, X28, e28, st28⟩ := getF X24 hx hZ hown (host := "") (Or.inl (hw _ (List.mem_of_getElem? (i := 41) rfl))) Via.refl e24 f27 (g := (mkF m 11 #[.val (.ref a0), .val (.ref a1), .val (.ref b3), .val (.int (1 : Int32)), .val (.int (0 : Int32)), .val (.double r0), .second, .val (.int (0 : Int32)), .unset, .unset] [(.ref a0), (.int (1 : Int32))])) rfl rfl (hb hby d6_11)
  have K28 : ∀ t, Steps p.tables e below (T28.setTop (mkF m 14 #[.val (.ref a0), .val (.ref a1), .val (.ref b3), .val (.int (1 : Int32)), .val (.int (0 : Int32)), .val (.double r0), .second, .val (.int (0 : Int32)), .unset, .unset] [(.int (2 : Int32)), (.int (1 : Int32))])) t → Steps p.tables e below G0 t := fun t kt => K26 t (st28 _ kt)
  have K29 : ∀ t, Steps p.tables e below (T28.setTop (mkF m 18 #[.val (.ref a0), .val (.ref a1), .val (.ref b3), .val (.int (1 : Int32)), .val (.int (0 : Int32)), .val (.double r0), .second, .val (.int (0 : Int32)), .unset, .unset] [(.ref a0)])) t → Steps p.tables e below G0 t := by
    intro t kt
    refine K28 t ?_
    refine XS.icmpNo X28.here hx rfl (hb hby d6_14) rfl (tlt (by decide)).2.1 ?_
    show Steps p.tables e below (T28.setTop (mkF m 17 #[.val (.ref a0), .val (.ref a1), .val (.ref b3), .val (.int (1 : Int32)), .val (.int (0 : Int32)), .val (.double r0), .second, .val (.int (0 : Int32)), .unset, .unset] [])) _
    refine XS.aloadN X28.here hx rfl (hb hby d6_17) rfl rfl ?_
    show Steps p.tables e below (T28.setTop (mkF m 18 #[.val (.ref a0), .val (.ref a1), .val (.ref b3), .val (.int (1 : Int32)), .val (.int (0 : Int32)), .val (.double r0), .second, .val (.int (0 : Int32)), .unset, .unset] [(.ref a0)])) _
    exact kt
  have f30 := (f8.other W24 (Or.inl ne_a0_b3))
  obtain ⟨T31, X31, e31, st31⟩ := getF X28 hx hZ hown (host := "") (Or.inl (hw _ (List.mem_of_getElem? (i := 29) rfl))) Via.refl e28 f30 (g := (mkF m 18 #[.val (.ref a0), .val (.ref a1), .val (.ref b3), .val (.int (1 : Int32)), .val (.int (0 : Int32)), .val (.double r0), .second, .val (.int (0 : Int32)), .unset, .unset] [(.ref a0)])) rfl rfl (hb hby d6_18)
  have K31 : ∀ t, Steps p.tables e below (T31.setTop (mkF m 21 #[.val (.ref a0), .val (.ref a1), .val (.ref b3), .val (.int (1 : Int32)), .val (.int (0 : Int32)), .val (.double r0), .second, .val (.int (0 : Int32)), .unset, .unset] [(.ref pe)])) t → Steps p.tables e below G0 t := fun t kt => K29 t (st31 _ kt)
  have K32 : ∀ t, Steps p.tables e below (T31.setTop (mkF m 22 #[.val (.ref a0), .val (.ref a1), .val (.ref b3), .val (.int (1 : Int32)), .val (.int (0 : Int32)), .val (.double r0), .second, .val (.int (0 : Int32)), .unset, .unset] [(.int (1 : Int32)), (.ref pe)])) t → Steps p.tables e below G0 t := by
    intro t kt
    refine K31 t ?_
    refine XS.iloadN X31.here hx rfl (hb hby d6_21) rfl ?_
    show Steps p.tables e below (T31.setTop (mkF m 22 #[.val (.ref a0), .val (.ref a1), .val (.ref b3), .val (.int (1 : Int32)), .val (.int (0 : Int32)), .val (.double r0), .second, .val (.int (0 : Int32)), .unset, .unset] [(.int (1 : Int32)), (.ref pe)])) _
    exact kt
  have f33 := (f11.other W24 ne_pe_b3)
  obtain ⟨cl34, Ar34, qq34, S34, M34, H34, GG34⟩ := id f33
  have hin34 : ¬ ((1 : Int32) < 0 ∨ cl34.slots.size ≤ ((1 : Int32)).toNatClampNeg) := inb_of S34 ⟨by decide, by decide⟩
  have hat34 : cl34.slots[((1 : Int32)).toNatClampNeg]? = some (.int (1 : Int32)) := Has.at H34 hin34 rfl
  have K35 : ∀ t, Steps p.tables e below (T31.setTop (mkF m 28 #[.val (.ref a0), .val (.ref a1), .val (.ref b3), .val (.int (1 : Int32)), .val (.int (1 : Int32)), .val (.double r0), .second, .val (.int (0 : Int32)), .unset, .unset] [(.int (1 : Int32)), (.ref a1)])) t → Steps p.tables e below G0 t := by
    intro t kt
    refine K32 t ?_
    refine X31.iaload hx (j := (1 : Int32)) (v := (.int (1 : Int32))) (by rw [e31]; exact (Ar34).1) (State.isArrayOf_alike hZ.alike (Ar34).2.1) (Ar34).2.2 hin34 hat34 (g := (mkF m 22 #[.val (.ref a0), .val (.ref a1), .val (.ref b3), .val (.int (1 : Int32)), .val (.int (0 : Int32)), .val (.double r0), .second, .val (.int (0 : Int32)), .unset, .unset] [(.int (1 : Int32)), (.ref pe)])) rfl rfl (hb hby d6_22) _ ?_
    show Steps p.tables e below (T31.setTop (mkF m 23 #[.val (.ref a0), .val (.ref a1), .val (.ref b3), .val (.int (1 : Int32)), .val (.int (0 : Int32)), .val (.double r0), .second, .val (.int (0 : Int32)), .unset, .unset] [(.int (1 : Int32))])) _
    refine XS.istore X31.here hx rfl (hb hby d6_23) rfl (l' := #[.val (.ref a0), .val (.ref a1), .val (.ref b3), .val (.int (1 : Int32)), .val (.int (1 : Int32)), .val (.double r0), .second, .val (.int (0 : Int32)), .unset, .unset]) rfl ?_
    show Steps p.tables e below (T31.setTop (mkF m 25 #[.val (.ref a0), .val (.ref a1), .val (.ref b3), .val (.int (1 : Int32)), .val (.int (1 : Int32)), .val (.double r0), .second, .val (.int (0 : Int32)), .unset, .unset] [])) _
    refine XS.aloadN X31.here hx rfl (hb hby d6_25) rfl rfl ?_
    show Steps p.tables e below (T31.setTop (mkF m 26 #[.val (.ref a0), .val (.ref a1), .val (.ref b3), .val (.int (1 : Int32)), .val (.int (1 : Int32)), .val (.double r0), .second, .val (.int (0 : Int32)), .unset, .unset] [(.ref a1)])) _
    refine XS.iload X31.here hx rfl (hb hby d6_26) rfl ?_
    show Steps p.tables e below (T31.setTop (mkF m 28 #[.val (.ref a0), .val (.ref a1), .val (.ref b3), .val (.int (1 : Int32)), .val (.int (1 : Int32)), .val (.double r0), .second, .val (.int (0 : Int32)), .unset, .unset] [(.int (1 : Int32)), (.ref a1)])) _
    exact kt
  have f36 := (f14.other W24 ne_a1_b3)
  obtain ⟨cl37, Ar37, qq37, S37, M37, H37, GG37⟩ := id f36
  have hin37 : ¬ ((1 : Int32) < 0 ∨ cl37.slots.size ≤ ((1 : Int32)).toNatClampNeg) := inb_of S37 ⟨by decide, by decide⟩
  have hat37 : cl37.slots[((1 : Int32)).toNatClampNeg]? = some (.double r1) := Has.at H37 hin37 rfl
  have K38 : ∀ t, Steps p.tables e below (T31.setTop (mkF m 37 #[.val (.ref a0), .val (.ref a1), .val (.ref b3), .val (.int (1 : Int32)), .val (.int (1 : Int32)), .val (.double r1), .second, .val (.int (0 : Int32)), .unset, .unset] [(.ref a0), (.int (0 : Int32))])) t → Steps p.tables e below G0 t := by
    intro t kt
    refine K35 t ?_
    refine X31.daload hx (j := (1 : Int32)) (v := (.double r1)) (by rw [e31]; exact (Ar37).1) (State.isArrayOf_alike hZ.alike (Ar37).2.1) (Ar37).2.2 hin37 hat37 (g := (mkF m 28 #[.val (.ref a0), .val (.ref a1), .val (.ref b3), .val (.int (1 : Int32)), .val (.int (1 : Int32)), .val (.double r0), .second, .val (.int (0 : Int32)), .unset, .unset] [(.int (1 : Int32)), (.ref a1)])) rfl rfl (hb hby d6_28) _ ?_
    show Steps p.tables e below (T31.setTop (mkF m 29 #[.val (.ref a0), .val (.ref a1), .val (.ref b3), .val (.int (1 : Int32)), .val (.int (1 : Int32)), .val (.double r0), .second, .val (.int (0 : Int32)), .unset, .unset] [(.double r1)])) _
    refine XS.dstore X31.here hx rfl (hb hby d6_29) rfl (l' := #[.val (.ref a0), .val (.ref a1), .val (.ref b3), .val (.int (1 : Int32)), .val (.int (1 : Int32)), .val (.double r1), .second, .val (.int (0 : Int32)), .unset, .unset]) rfl ?_
    show Steps p.tables e below (T31.setTop (mkF m 31 #[.val (.ref a0), .val (.ref a1), .val (.ref b3), .val (.int (1 : Int32)), .val (.int (1 : Int32)), .val (.double r1), .second, .val (.int (0 : Int32)), .unset, .unset] [])) _
    refine XS.iconst X31.here hx rfl (hb hby d6_31) ?_
    show Steps p.tables e below (T31.setTop (mkF m 32 #[.val (.ref a0), .val (.ref a1), .val (.ref b3), .val (.int (1 : Int32)), .val (.int (1 : Int32)), .val (.double r1), .second, .val (.int (0 : Int32)), .unset, .unset] [(.int (0 : Int32))])) _
    refine XS.istore X31.here hx rfl (hb hby d6_32) rfl (l' := #[.val (.ref a0), .val (.ref a1), .val (.ref b3), .val (.int (1 : Int32)), .val (.int (1 : Int32)), .val (.double r1), .second, .val (.int (0 : Int32)), .unset, .unset]) rfl ?_
    show Steps p.tables e below (T31.setTop (mkF m 34 #[.val (.ref a0), .val (.ref a1), .val (.ref b3), .val (.int (1 : Int32)), .val (.int (1 : Int32)), .val (.double r1), .second, .val (.int (0 : Int32)), .unset, .unset] [])) _
    refine XS.iload X31.here hx rfl (hb hby d6_34) rfl ?_
    show Steps p.tables e below (T31.setTop (mkF m 36 #[.val (.ref a0), .val (.ref a1), .val (.ref b3), .val (.int (1 : Int32)), .val (.int (1 : Int32)), .val (.double r1), .second, .val (.int (0 : Int32)), .unset, .unset] [(.int (0 : Int32))])) _
    refine XS.aloadN X31.here hx rfl (hb hby d6_36) rfl rfl ?_
    show Steps p.tables e below (T31.setTop (mkF m 37 #[.val (.ref a0), .val (.ref a1), .val (.ref b3), .val (.int (1 : Int32)), .val (.int (1 : Int32)), .val (.double r1), .second, .val (.int (0 : Int32)), .unset, .unset] [(.ref a0), (.int (0 : Int32))])) _
    exact kt
  have f39 := (f17.other W24 (Or.inl ne_a0_b3))
  obtain ⟨T40, X40, e40, st40⟩ := getF X31 hx hZ hown (host := "") (Or.inl (hw _ (List.mem_of_getElem? (i := 23) rfl))) Via.refl e31 f39 (g := (mkF m 37 #[.val (.ref a0), .val (.ref a1), .val (.ref b3), .val (.int (1 : Int32)), .val (.int (1 : Int32)), .val (.double r1), .second, .val (.int (0 : Int32)), .unset, .unset] [(.ref a0), (.int (0 : Int32))])) rfl rfl (hb hby d6_37)
  have K40 : ∀ t, Steps p.tables e below (T40.setTop (mkF m 40 #[.val (.ref a0), .val (.ref a1), .val (.ref b3), .val (.int (1 : Int32)), .val (.int (1 : Int32)), .val (.double r1), .second, .val (.int (0 : Int32)), .unset, .unset] [(.ref ln), (.int (0 : Int32))])) t → Steps p.tables e below G0 t := fun t kt => K38 t (st40 _ kt)
  have K41 : ∀ t, Steps p.tables e below (T40.setTop (mkF m 42 #[.val (.ref a0), .val (.ref a1), .val (.ref b3), .val (.int (1 : Int32)), .val (.int (1 : Int32)), .val (.double r1), .second, .val (.int (0 : Int32)), .unset, .unset] [(.int (1 : Int32)), (.ref ln), (.int (0 : Int32))])) t → Steps p.tables e below G0 t := by
    intro t kt
    refine K40 t ?_
    refine XS.iload X40.here hx rfl (hb hby d6_40) rfl ?_
    show Steps p.tables e below (T40.setTop (mkF m 42 #[.val (.ref a0), .val (.ref a1), .val (.ref b3), .val (.int (1 : Int32)), .val (.int (1 : Int32)), .val (.double r1), .second, .val (.int (0 : Int32)), .unset, .unset] [(.int (1 : Int32)), (.ref ln), (.int (0 : Int32))])) _
    exact kt
  have f42 := (f20.other W24 ne_ln_b3)
  obtain ⟨cl43, Ar43, qq43, S43, M43, H43, GG43⟩ := id f42
  have hin43 : ¬ ((1 : Int32) < 0 ∨ cl43.slots.size ≤ ((1 : Int32)).toNatClampNeg) := inb_of S43 ⟨by decide, by decide⟩
  have hat43 : cl43.slots[((1 : Int32)).toNatClampNeg]? = some (.int (0 : Int32)) := Has.at H43 hin43 rfl
  have K44 : ∀ t, Steps p.tables e below (T40.setTop (mkF m 84 #[.val (.ref a0), .val (.ref a1), .val (.ref b3), .val (.int (1 : Int32)), .val (.int (1 : Int32)), .val (.double r1), .second, .val (.int (0 : Int32)), .unset, .unset] [(.double r1), (.int (1 : Int32)), (.ref b3)])) t → Steps p.tables e below G0 t := by
    intro t kt
    refine K41 t ?_
    refine X40.iaload hx (j := (1 : Int32)) (v := (.int (0 : Int32))) (by rw [e40]; exact (Ar43).1) (State.isArrayOf_alike hZ.alike (Ar43).2.1) (Ar43).2.2 hin43 hat43 (g := (mkF m 42 #[.val (.ref a0), .val (.ref a1), .val (.ref b3), .val (.int (1 : Int32)), .val (.int (1 : Int32)), .val (.double r1), .second, .val (.int (0 : Int32)), .unset, .unset] [(.int (1 : Int32)), (.ref ln), (.int (0 : Int32))])) rfl rfl (hb hby d6_42) _ ?_
    show Steps p.tables e below (T40.setTop (mkF m 43 #[.val (.ref a0), .val (.ref a1), .val (.ref b3), .val (.int (1 : Int32)), .val (.int (1 : Int32)), .val (.double r1), .second, .val (.int (0 : Int32)), .unset, .unset] [(.int (0 : Int32)), (.int (0 : Int32))])) _
    refine XS.icmpYes X40.here hx rfl (pc0 := 43) (pc' := 80) rfl (hb hby d6_43) rfl (flt (by decide)).2.1 (by decide) (by decide) ?_
    show Steps p.tables e below (T40.setTop (mkF m 80 #[.val (.ref a0), .val (.ref a1), .val (.ref b3), .val (.int (1 : Int32)), .val (.int (1 : Int32)), .val (.double r1), .second, .val (.int (0 : Int32)), .unset, .unset] [])) _
    refine XS.aloadN X40.here hx rfl (hb hby d6_80) rfl rfl ?_
    show Steps p.tables e below (T40.setTop (mkF m 81 #[.val (.ref a0), .val (.ref a1), .val (.ref b3), .val (.int (1 : Int32)), .val (.int (1 : Int32)), .val (.double r1), .second, .val (.int (0 : Int32)), .unset, .unset] [(.ref b3)])) _
    refine XS.iloadN X40.here hx rfl (hb hby d6_81) rfl ?_
    show Steps p.tables e below (T40.setTop (mkF m 82 #[.val (.ref a0), .val (.ref a1), .val (.ref b3), .val (.int (1 : Int32)), .val (.int (1 : Int32)), .val (.double r1), .second, .val (.int (0 : Int32)), .unset, .unset] [(.int (1 : Int32)), (.ref b3)])) _
    refine XS.dload X40.here hx rfl (hb hby d6_82) rfl ?_
    show Steps p.tables e below (T40.setTop (mkF m 84 #[.val (.ref a0), .val (.ref a1), .val (.ref b3), .val (.int (1 : Int32)), .val (.int (1 : Int32)), .val (.double r1), .second, .val (.int (0 : Int32)), .unset, .unset] [(.double r1), (.int (1 : Int32)), (.ref b3)])) _
    exact kt
  obtain ⟨cl45, Ar45, qq45, S45, M45, H45, GG45⟩ := id VL24
  have hin45 : ¬ ((1 : Int32) < 0 ∨ cl45.slots.size ≤ ((1 : Int32)).toNatClampNeg) := inb_of S45 ⟨by decide, by decide⟩
  obtain ⟨T46, h46, X46, e46, W46, st46⟩ := stD X40 hx hZ e40 Ar45 (j := (1 : Int32)) hin45 (g := (mkF m 84 #[.val (.ref a0), .val (.ref a1), .val (.ref b3), .val (.int (1 : Int32)), .val (.int (1 : Int32)), .val (.double r1), .second, .val (.int (0 : Int32)), .unset, .unset] [(.double r1), (.int (1 : Int32)), (.ref b3)])) rfl rfl (hb hby d6_84)
  have K46 : ∀ t, Steps p.tables e below (T46.setTop (mkF m 85 #[.val (.ref a0), .val (.ref a1), .val (.ref b3), .val (.int (1 : Int32)), .val (.int (1 : Int32)), .val (.double r1), .second, .val (.int (0 : Int32)), .unset, .unset] [])) t → Steps p.tables e below G0 t := fun t kt => K44 t (st46 _ kt)
  have Z46 : n0 ≤ h46.size := Nat.le_trans Z24 (Keep.of_wr W46).1
  have VL46 : Arv Z h46 b3 k3 .double (2 : Int32) [(.double r0), (.double r1)] (.double 0) := Arv.set Ar45 qq45 S45 M45 H45 GG45 rfl W46 1 rfl (Nat.le_of_ble_eq_true rfl)
  have N46 := Fr.snoc X46 N24 gn3
  have K47 : ∀ t, Steps p.tables e below (T46.setTop (mkF m 88 #[.val (.ref a0), .val (.ref a1), .val (.ref b3), .val (.int ((1 : Int32) + (1 : Int32))), .val (.int (1 : Int32)), .val (.double r1), .second, .val (.int (0 : Int32)), .unset, .unset] [])) t → Steps p.tables e below G0 t := by
    intro t kt
    refine K46 t ?_
    refine XS.iinc X46.here hx rfl (hb hby d6_85) rfl (l' := #[.val (.ref a0), .val (.ref a1), .val (.ref b3), .val (.int ((1 : Int32) + (1 : Int32))), .val (.int (1 : Int32)), .val (.double r1), .second, .val (.int (0 : Int32)), .unset, .unset]) rfl ?_
    show Steps p.tables e below (T46.setTop (mkF m 88 #[.val (.ref a0), .val (.ref a1), .val (.ref b3), .val (.int ((1 : Int32) + (1 : Int32))), .val (.int (1 : Int32)), .val (.double r1), .second, .val (.int (0 : Int32)), .unset, .unset] [])) _
    exact kt
  rw [show ((1 : Int32) + (1 : Int32)) = (2 : Int32) from by decide] at K47
  have K48 : ∀ t, Steps p.tables e below (T46.setTop (mkF m 11 #[.val (.ref a0), .val (.ref a1), .val (.ref b3), .val (.int (2 : Int32)), .val (.int (1 : Int32)), .val (.double r1), .second, .val (.int (0 : Int32)), .unset, .unset] [(.ref a0), (.int (2 : Int32))])) t → Steps p.tables e below G0 t := by
    intro t kt
    refine K47 t ?_
    refine XS.goto X46.here hx rfl (pc0 := 88) (pc' := 9) rfl (hb hby d6_88) (by decide) (by decide) ?_
    show Steps p.tables e below (T46.setTop (mkF m 9 #[.val (.ref a0), .val (.ref a1), .val (.ref b3), .val (.int (2 : Int32)), .val (.int (1 : Int32)), .val (.double r1), .second, .val (.int (0 : Int32)), .unset, .unset] [])) _
    refine XS.iloadN X46.here hx rfl (hb hby d6_9) rfl ?_
    show Steps p.tables e below (T46.setTop (mkF m 10 #[.val (.ref a0), .val (.ref a1), .val (.ref b3), .val (.int (2 : Int32)), .val (.int (1 : Int32)), .val (.double r1), .second, .val (.int (0 : Int32)), .unset, .unset] [(.int (2 : Int32))])) _
    refine XS.aloadN X46.here hx rfl (hb hby d6_10) rfl rfl ?_
    show Steps p.tables e below (T46.setTop (mkF m 11 #[.val (.ref a0), .val (.ref a1), .val (.ref b3), .val (.int (2 : Int32)), .val (.int (1 : Int32)), .val (.double r1), .second, .val (.int (0 : Int32)), .unset, .unset] [(.ref a0), (.int (2 : Int32))])) _
    exact kt
  have f49 := (f27.other W46 (Or.inl ne_a0_b3))
  obtain ⟨T50, X50, e50, st50⟩ := getF X46 hx hZ hown (host := "") (Or.inl (hw _ (List.mem_of_getElem? (i := 41) rfl))) Via.refl e46 f49 (g := (mkF m 11 #[.val (.ref a0), .val (.ref a1), .val (.ref b3), .val (.int (2 : Int32)), .val (.int (1 : Int32)), .val (.double r1), .second, .val (.int (0 : Int32)), .unset, .unset] [(.ref a0), (.int (2 : Int32))])) rfl rfl (hb hby d6_11)
  have K50 : ∀ t, Steps p.tables e below (T50.setTop (mkF m 14 #[.val (.ref a0), .val (.ref a1), .val (.ref b3), .val (.int (2 : Int32)), .val (.int (1 : Int32)), .val (.double r1), .second, .val (.int (0 : Int32)), .unset, .unset] [(.int (2 : Int32)), (.int (2 : Int32))])) t → Steps p.tables e below G0 t := fun t kt => K48 t (st50 _ kt)
  have K51 : ∀ t, Steps p.tables e below (T50.setTop (mkF m 92 #[.val (.ref a0), .val (.ref a1), .val (.ref b3), .val (.int (2 : Int32)), .val (.int (1 : Int32)), .val (.double r1), .second, .val (.int (0 : Int32)), .unset, .unset] [(.ref a0)])) t → Steps p.tables e below G0 t := by
    intro t kt
    refine K50 t ?_
    refine XS.icmpYes X50.here hx rfl (pc0 := 14) (pc' := 91) rfl (hb hby d6_14) rfl (flt (by decide)).2.1 (by decide) (by decide) ?_
    show Steps p.tables e below (T50.setTop (mkF m 91 #[.val (.ref a0), .val (.ref a1), .val (.ref b3), .val (.int (2 : Int32)), .val (.int (1 : Int32)), .val (.double r1), .second, .val (.int (0 : Int32)), .unset, .unset] [])) _
    refine XS.aloadN X50.here hx rfl (hb hby d6_91) rfl rfl ?_
    show Steps p.tables e below (T50.setTop (mkF m 92 #[.val (.ref a0), .val (.ref a1), .val (.ref b3), .val (.int (2 : Int32)), .val (.int (1 : Int32)), .val (.double r1), .second, .val (.int (0 : Int32)), .unset, .unset] [(.ref a0)])) _
    exact kt
  have f52 := (((fc_1.ext E3).other W24 (Or.inl ne_a0_b3)).other W46 (Or.inl ne_a0_b3))
  obtain ⟨T53, X53, e53, st53⟩ := getF X50 hx hZ hown (host := "") (Or.inl (hw _ (List.mem_of_getElem? (i := 9) rfl))) Via.refl e50 f52 (g := (mkF m 92 #[.val (.ref a0), .val (.ref a1), .val (.ref b3), .val (.int (2 : Int32)), .val (.int (1 : Int32)), .val (.double r1), .second, .val (.int (0 : Int32)), .unset, .unset] [(.ref a0)])) rfl rfl (hb hby d6_92)
  have K53 : ∀ t, Steps p.tables e below (T53.setTop (mkF m 95 #[.val (.ref a0), .val (.ref a1), .val (.ref b3), .val (.int (2 : Int32)), .val (.int (1 : Int32)), .val (.double r1), .second, .val (.int (0 : Int32)), .unset, .unset] [(.int (2 : Int32))])) t → Steps p.tables e below G0 t := fun t kt => K51 t (st53 _ kt)
  have f54 := (((fc_0.ext E3).wr W24).wr W46)
  have f55 := (((fc_10.ext E3).other W24 ne_rb_b3).other W46 ne_rb_b3)
  have f56 := (((fc_11.ext E3).other W24 ne_ml_b3).other W46 ne_ml_b3)
  have f57 := (f42.other W46 ne_ln_b3)
  have f58 := (f33.other W46 ne_pe_b3)
  have f59 := (((fc_14.ext E3).other W24 ne_pu_b3).other W46 ne_pu_b3)
  have f60 := (((fc_15.ext E3).other W24 ne_pc_b3).other W46 ne_pc_b3)
  have f61 := (f36.other W46 ne_a1_b3)
  have f62 := (((V_u0.ext E3).other W24 ne_u0_b3).other W46 ne_u0_b3)
  have f63 := (((V_u1.ext E3).other W24 ne_u1_b3).other W46 ne_u1_b3)
  have f64 := (((V_k0.ext E3).other W24 ne_k0_b3).other W46 ne_k0_b3)
  have f65 := (((V_k1.ext E3).other W24 ne_k1_b3).other W46 ne_k1_b3)
  obtain ⟨T66, h66, k66, X66, e66, E66, A66, EA66, st66⟩ := newPE X53 hx hZ (hw _ (List.mem_of_getElem? (i := 35) rfl)) e53 (g := (mkF m 95 #[.val (.ref a0), .val (.ref a1), .val (.ref b3), .val (.int (2 : Int32)), .val (.int (1 : Int32)), .val (.double r1), .second, .val (.int (0 : Int32)), .unset, .unset] [(.int (2 : Int32))])) rfl (hb hby d6_95) rfl (by decide) (cap := 2) (by decide) (by decide) (by decide) (by decide) (ad := "[D") (by decide)
  obtain ⟨b66, g66⟩ : ∃ z, z = h46.size := ⟨_, rfl⟩
  rw [← g66] at A66 EA66 st66
  have V66 := Arv.new A66 (by decide)
  have gn66 : n0 ≤ b66 := Nat.le_trans Z46 (Nat.le_of_eq g66.symm)
  have Z66 : n0 ≤ h66.size := Nat.le_trans Z46 E66.1
  have K66 : ∀ t, Steps p.tables e below (T66.setTop (mkF m 97 #[.val (.ref a0), .val (.ref a1), .val (.ref b3), .val (.int (2 : Int32)), .val (.int (1 : Int32)), .val (.double r1), .second, .val (.int (0 : Int32)), .unset, .unset] [(.ref b66)])) t → Steps p.tables e below G0 t := fun t kt => K53 t (st66 _ kt)
  have ne_a0_b66 : a0 ≠ b66 := Nat.ne_of_lt (Nat.lt_of_lt_of_le (f54).lt (Nat.le_of_eq g66.symm))
  have ne_rb_b66 : rb ≠ b66 := Nat.ne_of_lt (Nat.lt_of_lt_of_le (f55).lt (Nat.le_of_eq g66.symm))
  have ne_ml_b66 : ml ≠ b66 := Nat.ne_of_lt (Nat.lt_of_lt_of_le (f56).lt (Nat.le_of_eq g66.symm))
  have ne_ln_b66 : ln ≠ b66 := Nat.ne_of_lt (Nat.lt_of_lt_of_le (f57).lt (Nat.le_of_eq g66.symm))
  have ne_pe_b66 : pe ≠ b66 := Nat.ne_of_lt (Nat.lt_of_lt_of_le (f58).lt (Nat.le_of_eq g66.symm))
  have ne_pu_b66 : pu ≠ b66 := Nat.ne_of_lt (Nat.lt_of_lt_of_le (f59).lt (Nat.le_of_eq g66.symm))
  have ne_pc_b66 : pc ≠ b66 := Nat.ne_of_lt (Nat.lt_of_lt_of_le (f60).lt (Nat.le_of_eq g66.symm))
  have ne_a1_b66 : a1 ≠ b66 := Nat.ne_of_lt (Nat.lt_of_lt_of_le (f61).lt (Nat.le_of_eq g66.symm))
  have ne_u0_b66 : u0 ≠ b66 := Nat.ne_of_lt (Nat.lt_of_lt_of_le (f62).lt (Nat.le_of_eq g66.symm))
  have ne_u1_b66 : u1 ≠ b66 := Nat.ne_of_lt (Nat.lt_of_lt_of_le (f63).lt (Nat.le_of_eq g66.symm))
  have ne_k0_b66 : k0 ≠ b66 := Nat.ne_of_lt (Nat.lt_of_lt_of_le (f64).lt (Nat.le_of_eq g66.symm))
  have ne_k1_b66 : k1 ≠ b66 := Nat.ne_of_lt (Nat.lt_of_lt_of_le (f65).lt (Nat.le_of_eq g66.symm))
  have ne_b3_b66 : b3 ≠ b66 := Nat.ne_of_lt (Nat.lt_of_lt_of_le (VL46).lt (Nat.le_of_eq g66.symm))
  have VL66 : Arv Z h66 b66 k66 .double (2 : Int32) [(.double 0), (.double 0)] (.double 0) := V66.pad (pad_rep [] (.double 0) 2)
  have K67 : ∀ t, Steps p.tables e below (T66.setTop (mkF m 99 #[.val (.ref a0), .val (.ref a1), .val (.ref b3), .val (.ref b66), .val (.int (1 : Int32)), .val (.double r1), .second, .val (.int (0 : Int32)), .unset, .unset] [(.ref a0)])) t → Steps p.tables e below G0 t := by
    intro t kt
    refine K66 t ?_
    refine XS.astoreN X66.here hx rfl (hb hby d6_97) rfl rfl (l' := #[.val (.ref a0), .val (.ref a1), .val (.ref b3), .val (.ref b66), .val (.int (1 : Int32)), .val (.double r1), .second, .val (.int (0 : Int32)), .unset, .unset]) rfl ?_
    show Steps p.tables e below (T66.setTop (mkF m 98 #[.val (.ref a0), .val (.ref a1), .val (.ref b3), .val (.ref b66), .val (.int (1 : Int32)), .val (.double r1), .second, .val (.int (0 : Int32)), .unset, .unset] [])) _
    refine XS.aloadN X66.here hx rfl (hb hby d6_98) rfl rfl ?_
    show Steps p.tables e below (T66.setTop (mkF m 99 #[.val (.ref a0), .val (.ref a1), .val (.ref b3), .val (.ref b66), .val (.int (1 : Int32)), .val (.double r1), .second, .val (.int (0 : Int32)), .unset, .unset] [(.ref a0)])) _
    exact kt
  have f68 := (f49.ext E66)
  obtain ⟨T69, X69, e69, st69⟩ := getF X66 hx hZ hown (host := "") (Or.inl (hw _ (List.mem_of_getElem? (i := 41) rfl))) Via.refl e66 f68 (g := (mkF m 99 #[.val (.ref a0), .val (.ref a1), .val (.ref b3), .val (.ref b66), .val (.int (1 : Int32)), .val (.double r1), .second, .val (.int (0 : Int32)), .unset, .unset] [(.ref a0)])) rfl rfl (hb hby d6_99)
  have K69 : ∀ t, Steps p.tables e below (T69.setTop (mkF m 102 #[.val (.ref a0), .val (.ref a1), .val (.ref b3), .val (.ref b66), .val (.int (1 : Int32)), .val (.double r1), .second, .val (.int (0 : Int32)), .unset, .unset] [(.int (2 : Int32))])) t → Steps p.tables e below G0 t := fun t kt => K67 t (st69 _ kt)
  have K70 : ∀ t, Steps p.tables e below (T69.setTop (mkF m 106 #[.val (.ref a0), .val (.ref a1), .val (.ref b3), .val (.ref b66), .val (.int ((2 : Int32) - (1 : Int32))), .val (.double r1), .second, .val (.int (0 : Int32)), .unset, .unset] [])) t → Steps p.tables e below G0 t := by
    intro t kt
    refine K69 t ?_
    refine XS.iconst X69.here hx rfl (hb hby d6_102) ?_
    show Steps p.tables e below (T69.setTop (mkF m 103 #[.val (.ref a0), .val (.ref a1), .val (.ref b3), .val (.ref b66), .val (.int (1 : Int32)), .val (.double r1), .second, .val (.int (0 : Int32)), .unset, .unset] [(.int (1 : Int32)), (.int (2 : Int32))])) _
    refine XS.isub X69.here hx rfl (hb hby d6_103) rfl ?_
    show Steps p.tables e below (T69.setTop (mkF m 104 #[.val (.ref a0), .val (.ref a1), .val (.ref b3), .val (.ref b66), .val (.int (1 : Int32)), .val (.double r1), .second, .val (.int (0 : Int32)), .unset, .unset] [(.int ((2 : Int32) - (1 : Int32)))])) _
    refine XS.istore X69.here hx rfl (hb hby d6_104) rfl (l' := #[.val (.ref a0), .val (.ref a1), .val (.ref b3), .val (.ref b66), .val (.int ((2 : Int32) - (1 : Int32))), .val (.double r1), .second, .val (.int (0 : Int32)), .unset, .unset]) rfl ?_
    show Steps p.tables e below (T69.setTop (mkF m 106 #[.val (.ref a0), .val (.ref a1), .val (.ref b3), .val (.ref b66), .val (.int ((2 : Int32) - (1 : Int32))), .val (.double r1), .second, .val (.int (0 : Int32)), .unset, .unset] [])) _
    exact kt
  rw [show ((2 : Int32) - (1 : Int32)) = (1 : Int32) from by decide] at K70
  have K71 : ∀ t, Steps p.tables e below (T69.setTop (mkF m 112 #[.val (.ref a0), .val (.ref a1), .val (.ref b3), .val (.ref b66), .val (.int (1 : Int32)), .val (.double r1), .second, .val (.int (0 : Int32)), .unset, .unset] [(.ref a0)])) t → Steps p.tables e below G0 t := by
    intro t kt
    refine K70 t ?_
    refine XS.iload X69.here hx rfl (hb hby d6_106) rfl ?_
    show Steps p.tables e below (T69.setTop (mkF m 108 #[.val (.ref a0), .val (.ref a1), .val (.ref b3), .val (.ref b66), .val (.int (1 : Int32)), .val (.double r1), .second, .val (.int (0 : Int32)), .unset, .unset] [(.int (1 : Int32))])) _
    refine XS.ifNo X69.here hx rfl (hb hby d6_108) rfl ((if0 _ _).trans (flt (by decide)).1) ?_
    show Steps p.tables e below (T69.setTop (mkF m 111 #[.val (.ref a0), .val (.ref a1), .val (.ref b3), .val (.ref b66), .val (.int (1 : Int32)), .val (.double r1), .second, .val (.int (0 : Int32)), .unset, .unset] [])) _
    refine XS.aloadN X69.here hx rfl (hb hby d6_111) rfl rfl ?_
    show Steps p.tables e below (T69.setTop (mkF m 112 #[.val (.ref a0), .val (.ref a1), .val (.ref b3), .val (.ref b66), .val (.int (1 : Int32)), .val (.double r1), .second, .val (.int (0 : Int32)), .unset, .unset] [(.ref a0)])) _
    exact kt
  have f72 := ((((fc_8.ext E3).other W24 (Or.inl ne_a0_b3)).other W46 (Or.inl ne_a0_b3)).ext E66)
  obtain ⟨T73, X73, e73, st73⟩ := getF X69 hx hZ hown (host := "") (Or.inl (hw _ (List.mem_of_getElem? (i := 31) rfl))) Via.refl e69 f72 (g := (mkF m 112 #[.val (.ref a0), .val (.ref a1), .val (.ref b3), .val (.ref b66), .val (.int (1 : Int32)), .val (.double r1), .second, .val (.int (0 : Int32)), .unset, .unset] [(.ref a0)])) rfl rfl (hb hby d6_112)
  have K73 : ∀ t, Steps p.tables e below (T73.setTop (mkF m 115 #[.val (.ref a0), .val (.ref a1), .val (.ref b3), .val (.ref b66), .val (.int (1 : Int32)), .val (.double r1), .second, .val (.int (0 : Int32)), .unset, .unset] [(.ref pu)])) t → Steps p.tables e below G0 t := fun t kt => K71 t (st73 _ kt)
  have K74 : ∀ t, Steps p.tables e below (T73.setTop (mkF m 117 #[.val (.ref a0), .val (.ref a1), .val (.ref b3), .val (.ref b66), .val (.int (1 : Int32)), .val (.double r1), .second, .val (.int (0 : Int32)), .unset, .unset] [(.int (1 : Int32)), (.ref pu)])) t → Steps p.tables e below G0 t := by
    intro t kt
    refine K73 t ?_
    refine XS.iload X73.here hx rfl (hb hby d6_115) rfl ?_
    show Steps p.tables e below (T73.setTop (mkF m 117 #[.val (.ref a0), .val (.ref a1), .val (.ref b3), .val (.ref b66), .val (.int (1 : Int32)), .val (.double r1), .second, .val (.int (0 : Int32)), .unset, .unset] [(.int (1 : Int32)), (.ref pu)])) _
    exact kt
  have f75 := (f59.ext E66)
  obtain ⟨cl76, Ar76, qq76, S76, M76, H76, GG76⟩ := id f75
  have hin76 : ¬ ((1 : Int32) < 0 ∨ cl76.slots.size ≤ ((1 : Int32)).toNatClampNeg) := inb_of S76 ⟨by decide, by decide⟩
  have hat76 : cl76.slots[((1 : Int32)).toNatClampNeg]? = some (.ref u1) := Has.at H76 hin76 rfl
  have K77 : ∀ t, Steps p.tables e below (T73.setTop (mkF m 121 #[.val (.ref a0), .val (.ref a1), .val (.ref b3), .val (.ref b66), .val (.int (1 : Int32)), .val (.ref u1), .unset, .val (.int (0 : Int32)), .unset, .unset] [(.ref a0)])) t → Steps p.tables e below G0 t := by
    intro t kt
    refine K74 t ?_
    refine X73.aaload hx (j := (1 : Int32)) (v := (.ref u1)) (by rw [e73]; exact (Ar76).1) (State.isArrayOf_alike hZ.alike (Ar76).2.1) rfl (Ar76).2.2 hin76 hat76 (g := (mkF m 117 #[.val (.ref a0), .val (.ref a1), .val (.ref b3), .val (.ref b66), .val (.int (1 : Int32)), .val (.double r1), .second, .val (.int (0 : Int32)), .unset, .unset] [(.int (1 : Int32)), (.ref pu)])) rfl rfl (hb hby d6_117) _ ?_
    show Steps p.tables e below (T73.setTop (mkF m 118 #[.val (.ref a0), .val (.ref a1), .val (.ref b3), .val (.ref b66), .val (.int (1 : Int32)), .val (.double r1), .second, .val (.int (0 : Int32)), .unset, .unset] [(.ref u1)])) _
    refine XS.astore X73.here hx rfl (hb hby d6_118) rfl rfl (l' := #[.val (.ref a0), .val (.ref a1), .val (.ref b3), .val (.ref b66), .val (.int (1 : Int32)), .val (.ref u1), .unset, .val (.int (0 : Int32)), .unset, .unset]) rfl ?_
    show Steps p.tables e below (T73.setTop (mkF m 120 #[.val (.ref a0), .val (.ref a1), .val (.ref b3), .val (.ref b66), .val (.int (1 : Int32)), .val (.ref u1), .unset, .val (.int (0 : Int32)), .unset, .unset] [])) _
    refine XS.aloadN X73.here hx rfl (hb hby d6_120) rfl rfl ?_
    show Steps p.tables e below (T73.setTop (mkF m 121 #[.val (.ref a0), .val (.ref a1), .val (.ref b3), .val (.ref b66), .val (.int (1 : Int32)), .val (.ref u1), .unset, .val (.int (0 : Int32)), .unset, .unset] [(.ref a0)])) _
    exact kt
  have f78 := ((((fc_9.ext E3).other W24 (Or.inl ne_a0_b3)).other W46 (Or.inl ne_a0_b3)).ext E66)
  obtain ⟨T79, X79, e79, st79⟩ := getF X73 hx hZ hown (host := "") (Or.inl (hw _ (List.mem_of_getElem? (i := 33) rfl))) Via.refl e73 f78 (g := (mkF m 121 #[.val (.ref a0), .val (.ref a1), .val (.ref b3), .val (.ref b66), .val (.int (1 : Int32)), .val (.ref u1), .unset, .val (.int (0 : Int32)), .unset, .unset] [(.ref a0)])) rfl rfl (hb hby d6_121)
  have K79 : ∀ t, Steps p.tables e below (T79.setTop (mkF m 124 #[.val (.ref a0), .val (.ref a1), .val (.ref b3), .val (.ref b66), .val (.int (1 : Int32)), .val (.ref u1), .unset, .val (.int (0 : Int32)), .unset, .unset] [(.ref pc)])) t → Steps p.tables e below G0 t := fun t kt => K77 t (st79 _ kt)
  have K80 : ∀ t, Steps p.tables e below (T79.setTop (mkF m 126 #[.val (.ref a0), .val (.ref a1), .val (.ref b3), .val (.ref b66), .val (.int (1 : Int32)), .val (.ref u1), .unset, .val (.int (0 : Int32)), .unset, .unset] [(.int (1 : Int32)), (.ref pc)])) t → Steps p.tables e below G0 t := by
    intro t kt
    refine K79 t ?_
    refine XS.iload X79.here hx rfl (hb hby d6_124) rfl ?_
    show Steps p.tables e below (T79.setTop (mkF m 126 #[.val (.ref a0), .val (.ref a1), .val (.ref b3), .val (.ref b66), .val (.int (1 : Int32)), .val (.ref u1), .unset, .val (.int (0 : Int32)), .unset, .unset] [(.int (1 : Int32)), (.ref pc)])) _
    exact kt
  have f81 := (f60.ext E66)
  obtain ⟨cl82, Ar82, qq82, S82, M82, H82, GG82⟩ := id f81
  have hin82 : ¬ ((1 : Int32) < 0 ∨ cl82.slots.size ≤ ((1 : Int32)).toNatClampNeg) := inb_of S82 ⟨by decide, by decide⟩
  have hat82 : cl82.slots[((1 : Int32)).toNatClampNeg]? = some (.ref k1) := Has.at H82 hin82 rfl
  have K83 : ∀ t, Steps p.tables e below (T79.setTop (mkF m 132 #[.val (.ref a0), .val (.ref a1), .val (.ref b3), .val (.ref b66), .val (.int (1 : Int32)), .val (.ref u1), .val (.ref k1), .val (.int (0 : Int32)), .unset, .unset] [(.int (1 : Int32)), (.ref b3)])) t → Steps p.tables e below G0 t := by
    intro t kt
    refine K80 t ?_
    refine X79.aaload hx (j := (1 : Int32)) (v := (.ref k1)) (by rw [e79]; exact (Ar82).1) (State.isArrayOf_alike hZ.alike (Ar82).2.1) rfl (Ar82).2.2 hin82 hat82 (g := (mkF m 126 #[.val (.ref a0), .val (.ref a1), .val (.ref b3), .val (.ref b66), .val (.int (1 : Int32)), .val (.ref u1), .unset, .val (.int (0 : Int32)), .unset, .unset] [(.int (1 : Int32)), (.ref pc)])) rfl rfl (hb hby d6_126) _ ?_
    show Steps p.tables e below (T79.setTop (mkF m 127 #[.val (.ref a0), .val (.ref a1), .val (.ref b3), .val (.ref b66), .val (.int (1 : Int32)), .val (.ref u1), .unset, .val (.int (0 : Int32)), .unset, .unset] [(.ref k1)])) _
    refine XS.astore X79.here hx rfl (hb hby d6_127) rfl rfl (l' := #[.val (.ref a0), .val (.ref a1), .val (.ref b3), .val (.ref b66), .val (.int (1 : Int32)), .val (.ref u1), .val (.ref k1), .val (.int (0 : Int32)), .unset, .unset]) rfl ?_
    show Steps p.tables e below (T79.setTop (mkF m 129 #[.val (.ref a0), .val (.ref a1), .val (.ref b3), .val (.ref b66), .val (.int (1 : Int32)), .val (.ref u1), .val (.ref k1), .val (.int (0 : Int32)), .unset, .unset] [])) _
    refine XS.aloadN X79.here hx rfl (hb hby d6_129) rfl rfl ?_
    show Steps p.tables e below (T79.setTop (mkF m 130 #[.val (.ref a0), .val (.ref a1), .val (.ref b3), .val (.ref b66), .val (.int (1 : Int32)), .val (.ref u1), .val (.ref k1), .val (.int (0 : Int32)), .unset, .unset] [(.ref b3)])) _
    refine XS.iload X79.here hx rfl (hb hby d6_130) rfl ?_
    show Steps p.tables e below (T79.setTop (mkF m 132 #[.val (.ref a0), .val (.ref a1), .val (.ref b3), .val (.ref b66), .val (.int (1 : Int32)), .val (.ref u1), .val (.ref k1), .val (.int (0 : Int32)), .unset, .unset] [(.int (1 : Int32)), (.ref b3)])) _
    exact kt
  have f84 := (VL46.ext E66)
  obtain ⟨cl85, Ar85, qq85, S85, M85, H85, GG85⟩ := id f84
  have hin85 : ¬ ((1 : Int32) < 0 ∨ cl85.slots.size ≤ ((1 : Int32)).toNatClampNeg) := inb_of S85 ⟨by decide, by decide⟩
  have hat85 : cl85.slots[((1 : Int32)).toNatClampNeg]? = some (.double r1) := Has.at H85 hin85 rfl
  have K86 : ∀ t, Steps p.tables e below (T79.setTop (mkF m 142 #[.val (.ref a0), .val (.ref a1), .val (.ref b3), .val (.ref b66), .val (.int (1 : Int32)), .val (.ref u1), .val (.ref k1), .val (.double r1), .second, .val (.int (1 : Int32))] [(.ref u1), (.int (1 : Int32))])) t → Steps p.tables e below G0 t := by
    intro t kt
    refine K83 t ?_
    refine X79.daload hx (j := (1 : Int32)) (v := (.double r1)) (by rw [e79]; exact (Ar85).1) (State.isArrayOf_alike hZ.alike (Ar85).2.1) (Ar85).2.2 hin85 hat85 (g := (mkF m 132 #[.val (.ref a0), .val (.ref a1), .val (.ref b3), .val (.ref b66), .val (.int (1 : Int32)), .val (.ref u1), .val (.ref k1), .val (.int (0 : Int32)), .unset, .unset] [(.int (1 : Int32)), (.ref b3)])) rfl rfl (hb hby d6_132) _ ?_
    show Steps p.tables e below (T79.setTop (mkF m 133 #[.val (.ref a0), .val (.ref a1), .val (.ref b3), .val (.ref b66), .val (.int (1 : Int32)), .val (.ref u1), .val (.ref k1), .val (.int (0 : Int32)), .unset, .unset] [(.double r1)])) _
    refine XS.dstore X79.here hx rfl (hb hby d6_133) rfl (l' := #[.val (.ref a0), .val (.ref a1), .val (.ref b3), .val (.ref b66), .val (.int (1 : Int32)), .val (.ref u1), .val (.ref k1), .val (.double r1), .second, .unset]) rfl ?_
    show Steps p.tables e below (T79.setTop (mkF m 135 #[.val (.ref a0), .val (.ref a1), .val (.ref b3), .val (.ref b66), .val (.int (1 : Int32)), .val (.ref u1), .val (.ref k1), .val (.double r1), .second, .unset] [])) _
    refine XS.iconst X79.here hx rfl (hb hby d6_135) ?_
    show Steps p.tables e below (T79.setTop (mkF m 136 #[.val (.ref a0), .val (.ref a1), .val (.ref b3), .val (.ref b66), .val (.int (1 : Int32)), .val (.ref u1), .val (.ref k1), .val (.double r1), .second, .unset] [(.int (1 : Int32))])) _
    refine XS.istore X79.here hx rfl (hb hby d6_136) rfl (l' := #[.val (.ref a0), .val (.ref a1), .val (.ref b3), .val (.ref b66), .val (.int (1 : Int32)), .val (.ref u1), .val (.ref k1), .val (.double r1), .second, .val (.int (1 : Int32))]) rfl ?_
    show Steps p.tables e below (T79.setTop (mkF m 138 #[.val (.ref a0), .val (.ref a1), .val (.ref b3), .val (.ref b66), .val (.int (1 : Int32)), .val (.ref u1), .val (.ref k1), .val (.double r1), .second, .val (.int (1 : Int32))] [])) _
    refine XS.iload X79.here hx rfl (hb hby d6_138) rfl ?_
    show Steps p.tables e below (T79.setTop (mkF m 140 #[.val (.ref a0), .val (.ref a1), .val (.ref b3), .val (.ref b66), .val (.int (1 : Int32)), .val (.ref u1), .val (.ref k1), .val (.double r1), .second, .val (.int (1 : Int32))] [(.int (1 : Int32))])) _
    refine XS.aload X79.here hx rfl (hb hby d6_140) rfl rfl ?_
    show Steps p.tables e below (T79.setTop (mkF m 142 #[.val (.ref a0), .val (.ref a1), .val (.ref b3), .val (.ref b66), .val (.int (1 : Int32)), .val (.ref u1), .val (.ref k1), .val (.double r1), .second, .val (.int (1 : Int32))] [(.ref u1), (.int (1 : Int32))])) _
    exact kt
  have f87 := (f63.ext E66)
  obtain ⟨cl88, Ar88, qq88, S88, M88, H88, GG88⟩ := id f87
  have K89 : ∀ t, Steps p.tables e below (T79.setTop (mkF m 174 #[.val (.ref a0), .val (.ref a1), .val (.ref b3), .val (.ref b66), .val (.int (1 : Int32)), .val (.ref u1), .val (.ref k1), .val (.double r1), .second, .val (.int (1 : Int32))] [(.int (0 : Int32)), (.ref u1), (.ref b66)])) t → Steps p.tables e below G0 t := by
    intro t kt
    refine K86 t ?_
    refine X79.arraylength hx (by rw [e79]; exact (Ar88).1) (State.isArrayOf_alike hZ.alike (Ar88).2.1) (g := (mkF m 142 #[.val (.ref a0), .val (.ref a1), .val (.ref b3), .val (.ref b66), .val (.int (1 : Int32)), .val (.ref u1), .val (.ref k1), .val (.double r1), .second, .val (.int (1 : Int32))] [(.ref u1), (.int (1 : Int32))])) rfl rfl (hb hby d6_142) _ ?_
    rw [len_of S88 M88]
    show Steps p.tables e below (T79.setTop (mkF m 143 #[.val (.ref a0), .val (.ref a1), .val (.ref b3), .val (.ref b66), .val (.int (1 : Int32)), .val (.ref u1), .val (.ref k1), .val (.double r1), .second, .val (.int (1 : Int32))] [(.int (1 : Int32)), (.int (1 : Int32))])) _
    refine XS.icmpYes X79.here hx rfl (pc0 := 143) (pc' := 170) rfl (hb hby d6_143) rfl (flt (by decide)).2.1 (by decide) (by decide) ?_
    show Steps p.tables e below (T79.setTop (mkF m 170 #[.val (.ref a0), .val (.ref a1), .val (.ref b3), .val (.ref b66), .val (.int (1 : Int32)), .val (.ref u1), .val (.ref k1), .val (.double r1), .second, .val (.int (1 : Int32))] [])) _
    refine XS.aloadN X79.here hx rfl (hb hby d6_170) rfl rfl ?_
    show Steps p.tables e below (T79.setTop (mkF m 171 #[.val (.ref a0), .val (.ref a1), .val (.ref b3), .val (.ref b66), .val (.int (1 : Int32)), .val (.ref u1), .val (.ref k1), .val (.double r1), .second, .val (.int (1 : Int32))] [(.ref b66)])) _
    refine XS.aload X79.here hx rfl (hb hby d6_171) rfl rfl ?_
    show Steps p.tables e below (T79.setTop (mkF m 173 #[.val (.ref a0), .val (.ref a1), .val (.ref b3), .val (.ref b66), .val (.int (1 : Int32)), .val (.ref u1), .val (.ref k1), .val (.double r1), .second, .val (.int (1 : Int32))] [(.ref u1), (.ref b66)])) _
    refine XS.iconst X79.here hx rfl (hb hby d6_173) ?_
    show Steps p.tables e below (T79.setTop (mkF m 174 #[.val (.ref a0), .val (.ref a1), .val (.ref b3), .val (.ref b66), .val (.int (1 : Int32)), .val (.ref u1), .val (.ref k1), .val (.double r1), .second, .val (.int (1 : Int32))] [(.int (0 : Int32)), (.ref u1), (.ref b66)])) _
    exact kt
  obtain ⟨cl90, Ar90, qq90, S90, M90, H90, GG90⟩ := id f87
  have hin90 : ¬ ((0 : Int32) < 0 ∨ cl90.slots.size ≤ ((0 : Int32)).toNatClampNeg) := inb_of S90 ⟨by decide, by decide⟩
  have hat90 : cl90.slots[((0 : Int32)).toNatClampNeg]? = some (.int (1 : Int32)) := Has.at H90 hin90 rfl
  have K91 : ∀ t, Steps p.tables e below (T79.setTop (mkF m 180 #[.val (.ref a0), .val (.ref a1), .val (.ref b3), .val (.ref b66), .val (.int (1 : Int32)), .val (.ref u1), .val (.ref k1), .val (.double r1), .second, .val (.int (1 : Int32))] [(.int (0 : Int32)), (.ref k1), (.double r1), (.int (1 : Int32)), (.ref b66)])) t → Steps p.tables e below G0 t := by
    intro t kt
    refine K89 t ?_
    refine X79.iaload hx (j := (0 : Int32)) (v := (.int (1 : Int32))) (by rw [e79]; exact (Ar90).1) (State.isArrayOf_alike hZ.alike (Ar90).2.1) (Ar90).2.2 hin90 hat90 (g := (mkF m 174 #[.val (.ref a0), .val (.ref a1), .val (.ref b3), .val (.ref b66), .val (.int (1 : Int32)), .val (.ref u1), .val (.ref k1), .val (.double r1), .second, .val (.int (1 : Int32))] [(.int (0 : Int32)), (.ref u1), (.ref b66)])) rfl rfl (hb hby d6_174) _ ?_
    show Steps p.tables e below (T79.setTop (mkF m 175 #[.val (.ref a0), .val (.ref a1), .val (.ref b3), .val (.ref b66), .val (.int (1 : Int32)), .val (.ref u1), .val (.ref k1), .val (.double r1), .second, .val (.int (1 : Int32))] [(.int (1 : Int32)), (.ref b66)])) _
    refine XS.dload X79.here hx rfl (hb hby d6_175) rfl ?_
    show Steps p.tables e below (T79.setTop (mkF m 177 #[.val (.ref a0), .val (.ref a1), .val (.ref b3), .val (.ref b66), .val (.int (1 : Int32)), .val (.ref u1), .val (.ref k1), .val (.double r1), .second, .val (.int (1 : Int32))] [(.double r1), (.int (1 : Int32)), (.ref b66)])) _
    refine XS.aload X79.here hx rfl (hb hby d6_177) rfl rfl ?_
    show Steps p.tables e below (T79.setTop (mkF m 179 #[.val (.ref a0), .val (.ref a1), .val (.ref b3), .val (.ref b66), .val (.int (1 : Int32)), .val (.ref u1), .val (.ref k1), .val (.double r1), .second, .val (.int (1 : Int32))] [(.ref k1), (.double r1), (.int (1 : Int32)), (.ref b66)])) _
    refine XS.iconst X79.here hx rfl (hb hby d6_179) ?_
    show Steps p.tables e below (T79.setTop (mkF m 180 #[.val (.ref a0), .val (.ref a1), .val (.ref b3), .val (.ref b66), .val (.int (1 : Int32)), .val (.ref u1), .val (.ref k1), .val (.double r1), .second, .val (.int (1 : Int32))] [(.int (0 : Int32)), (.ref k1), (.double r1), (.int (1 : Int32)), (.ref b66)])) _
    exact kt
  have f92 := (f65.ext E66)
  obtain ⟨cl93, Ar93, qq93, S93, M93, H93, GG93⟩ := id f92
  have hin93 : ¬ ((0 : Int32) < 0 ∨ cl93.slots.size ≤ ((0 : Int32)).toNatClampNeg) := inb_of S93 ⟨by decide, by decide⟩
  have hat93 : cl93.slots[((0 : Int32)).toNatClampNeg]? = some (.double dd) := Has.at H93 hin93 rfl
  have K94 : ∀ t, Steps p.tables e below (T79.setTop (mkF m 182 #[.val (.ref a0), .val (.ref a1), .val (.ref b3), .val (.ref b66), .val (.int (1 : Int32)), .val (.ref u1), .val (.ref k1), .val (.double r1), .second, .val (.int (1 : Int32))] [(.double (FP.ddiv r1 dd)), (.int (1 : Int32)), (.ref b66)])) t → Steps p.tables e below G0 t := by
    intro t kt
    refine K91 t ?_
    refine X79.daload hx (j := (0 : Int32)) (v := (.double dd)) (by rw [e79]; exact (Ar93).1) (State.isArrayOf_alike hZ.alike (Ar93).2.1) (Ar93).2.2 hin93 hat93 (g := (mkF m 180 #[.val (.ref a0), .val (.ref a1), .val (.ref b3), .val (.ref b66), .val (.int (1 : Int32)), .val (.ref u1), .val (.ref k1), .val (.double r1), .second, .val (.int (1 : Int32))] [(.int (0 : Int32)), (.ref k1), (.double r1), (.int (1 : Int32)), (.ref b66)])) rfl rfl (hb hby d6_180) _ ?_
    show Steps p.tables e below (T79.setTop (mkF m 181 #[.val (.ref a0), .val (.ref a1), .val (.ref b3), .val (.ref b66), .val (.int (1 : Int32)), .val (.ref u1), .val (.ref k1), .val (.double r1), .second, .val (.int (1 : Int32))] [(.double dd), (.double r1), (.int (1 : Int32)), (.ref b66)])) _
    refine XS.ddivS X79.here hx rfl (hb hby d6_181) rfl hn1 rfl ?_
    show Steps p.tables e below (T79.setTop (mkF m 182 #[.val (.ref a0), .val (.ref a1), .val (.ref b3), .val (.ref b66), .val (.int (1 : Int32)), .val (.ref u1), .val (.ref k1), .val (.double r1), .second, .val (.int (1 : Int32))] [(.double (FP.ddiv r1 dd)), (.int (1 : Int32)), (.ref b66)])) _
    exact kt
  obtain ⟨cl95, Ar95, qq95, S95, M95, H95, GG95⟩ := id VL66
  have hin95 : ¬ ((1 : Int32) < 0 ∨ cl95.slots.size ≤ ((1 : Int32)).toNatClampNeg) := inb_of S95 ⟨by decide, by decide⟩
  obtain ⟨T96, h96, X96, e96, W96, st96⟩ := stD X79 hx hZ e79 Ar95 (j := (1 : Int32)) hin95 (g := (mkF m 182 #[.val (.ref a0), .val (.ref a1), .val (.ref b3), .val (.ref b66), .val (.int (1 : Int32)), .val (.ref u1), .val (.ref k1), .val (.double r1), .second, .val (.int (1 : Int32))] [(.double (FP.ddiv r1 dd)), (.int (1 : Int32)), (.ref b66)])) rfl rfl (hb hby d6_182)
  have K96 : ∀ t, Steps p.tables e below (T96.setTop (mkF m 183 #[.val (.ref a0), .val (.ref a1), .val (.ref b3), .val (.ref b66), .val (.int (1 : Int32)), .val (.ref u1), .val (.ref k1), .val (.double r1), .second, .val (.int (1 : Int32))] [])) t → Steps p.tables e below G0 t := fun t kt => K94 t (st96 _ kt)
  have Z96 : n0 ≤ h96.size := Nat.le_trans Z66 (Keep.of_wr W96).1
  have VL96 : Arv Z h96 b66 k66 .double (2 : Int32) [(.double 0), (.double (FP.ddiv r1 dd))] (.double 0) := Arv.set Ar95 qq95 S95 M95 H95 GG95 rfl W96 1 rfl (Nat.le_of_ble_eq_true rfl)
  have N96 := Fr.snoc X96 N46 gn66
  have K97 : ∀ t, Steps p.tables e below (T96.setTop (mkF m 186 #[.val (.ref a0), .val (.ref a1), .val (.ref b3), .val (.ref b66), .val (.int ((1 : Int32) + (-1 : Int32))), .val (.ref u1), .val (.ref k1), .val (.double r1), .second, .val (.int (1 : Int32))] [])) t → Steps p.tables e below G0 t := by
    intro t kt
    refine K96 t ?_
    refine XS.iinc X96.here hx rfl (hb hby d6_183) rfl (l' := #[.val (.ref a0), .val (.ref a1), .val (.ref b3), .val (.ref b66), .val (.int ((1 : Int32) + (-1 : Int32))), .val (.ref u1), .val (.ref k1), .val (.double r1), .second, .val (.int (1 : Int32))]) rfl ?_
    show Steps p.tables e below (T96.setTop (mkF m 186 #[.val (.ref a0), .val (.ref a1), .val (.ref b3), .val (.ref b66), .val (.int ((1 : Int32) + (-1 : Int32))), .val (.ref u1), .val (.ref k1), .val (.double r1), .second, .val (.int (1 : Int32))] [])) _
    exact kt
  rw [show ((1 : Int32) + (-1 : Int32)) = (0 : Int32) from by decide] at K97
  have K98 : ∀ t, Steps p.tables e below (T96.setTop (mkF m 112 #[.val (.ref a0), .val (.ref a1), .val (.ref b3), .val (.ref b66), .val (.int (0 : Int32)), .val (.ref u1), .val (.ref k1), .val (.double r1), .second, .val (.int (1 : Int32))] [(.ref a0)])) t → Steps p.tables e below G0 t := by
    intro t kt
    refine K97 t ?_
    refine XS.goto X96.here hx rfl (pc0 := 186) (pc' := 106) rfl (hb hby d6_186) (by decide) (by decide) ?_
    show Steps p.tables e below (T96.setTop (mkF m 106 #[.val (.ref a0), .val (.ref a1), .val (.ref b3), .val (.ref b66), .val (.int (0 : Int32)), .val (.ref u1), .val (.ref k1), .val (.double r1), .second, .val (.int (1 : Int32))] [])) _
    refine XS.iload X96.here hx rfl (hb hby d6_106) rfl ?_
    show Steps p.tables e below (T96.setTop (mkF m 108 #[.val (.ref a0), .val (.ref a1), .val (.ref b3), .val (.ref b66), .val (.int (0 : Int32)), .val (.ref u1), .val (.ref k1), .val (.double r1), .second, .val (.int (1 : Int32))] [(.int (0 : Int32))])) _
    refine XS.ifNo X96.here hx rfl (hb hby d6_108) rfl ((if0 _ _).trans (flt (by decide)).1) ?_
    show Steps p.tables e below (T96.setTop (mkF m 111 #[.val (.ref a0), .val (.ref a1), .val (.ref b3), .val (.ref b66), .val (.int (0 : Int32)), .val (.ref u1), .val (.ref k1), .val (.double r1), .second, .val (.int (1 : Int32))] [])) _
    refine XS.aloadN X96.here hx rfl (hb hby d6_111) rfl rfl ?_
    show Steps p.tables e below (T96.setTop (mkF m 112 #[.val (.ref a0), .val (.ref a1), .val (.ref b3), .val (.ref b66), .val (.int (0 : Int32)), .val (.ref u1), .val (.ref k1), .val (.double r1), .second, .val (.int (1 : Int32))] [(.ref a0)])) _
    exact kt
  have f99 := (f72.other W96 (Or.inl ne_a0_b66))
  obtain ⟨T100, X100, e100, st100⟩ := getF X96 hx hZ hown (host := "") (Or.inl (hw _ (List.mem_of_getElem? (i := 31) rfl))) Via.refl e96 f99 (g := (mkF m 112 #[.val (.ref a0), .val (.ref a1), .val (.ref b3), .val (.ref b66), .val (.int (0 : Int32)), .val (.ref u1), .val (.ref k1), .val (.double r1), .second, .val (.int (1 : Int32))] [(.ref a0)])) rfl rfl (hb hby d6_112)
  have K100 : ∀ t, Steps p.tables e below (T100.setTop (mkF m 115 #[.val (.ref a0), .val (.ref a1), .val (.ref b3), .val (.ref b66), .val (.int (0 : Int32)), .val (.ref u1), .val (.ref k1), .val (.double r1), .second, .val (.int (1 : Int32))] [(.ref pu)])) t → Steps p.tables e below G0 t := fun t kt => K98 t (st100 _ kt)
  have K101 : ∀ t, Steps p.tables e below (T100.setTop (mkF m 117 #[.val (.ref a0), .val (.ref a1), .val (.ref b3), .val (.ref b66), .val (.int (0 : Int32)), .val (.ref u1), .val (.ref k1), .val (.double r1), .second, .val (.int (1 : Int32))] [(.int (0 : Int32)), (.ref pu)])) t → Steps p.tables e below G0 t := by
    intro t kt
    refine K100 t ?_
    refine XS.iload X100.here hx rfl (hb hby d6_115) rfl ?_
    show Steps p.tables e below (T100.setTop (mkF m 117 #[.val (.ref a0), .val (.ref a1), .val (.ref b3), .val (.ref b66), .val (.int (0 : Int32)), .val (.ref u1), .val (.ref k1), .val (.double r1), .second, .val (.int (1 : Int32))] [(.int (0 : Int32)), (.ref pu)])) _
    exact kt
  have f102 := (f75.other W96 ne_pu_b66)
  obtain ⟨cl103, Ar103, qq103, S103, M103, H103, GG103⟩ := id f102
  have hin103 : ¬ ((0 : Int32) < 0 ∨ cl103.slots.size ≤ ((0 : Int32)).toNatClampNeg) := inb_of S103 ⟨by decide, by decide⟩
  have hat103 : cl103.slots[((0 : Int32)).toNatClampNeg]? = some (.ref u0) := Has.at H103 hin103 rfl
  have K104 : ∀ t, Steps p.tables e below (T100.setTop (mkF m 121 #[.val (.ref a0), .val (.ref a1), .val (.ref b3), .val (.ref b66), .val (.int (0 : Int32)), .val (.ref u0), .val (.ref k1), .val (.double r1), .second, .val (.int (1 : Int32))] [(.ref a0)])) t → Steps p.tables e below G0 t := by
    intro t kt
    refine K101 t ?_
    refine X100.aaload hx (j := (0 : Int32)) (v := (.ref u0)) (by rw [e100]; exact (Ar103).1) (State.isArrayOf_alike hZ.alike (Ar103).2.1) rfl (Ar103).2.2 hin103 hat103 (g := (mkF m 117 #[.val (.ref a0), .val (.ref a1), .val (.ref b3), .val (.ref b66), .val (.int (0 : Int32)), .val (.ref u1), .val (.ref k1), .val (.double r1), .second, .val (.int (1 : Int32))] [(.int (0 : Int32)), (.ref pu)])) rfl rfl (hb hby d6_117) _ ?_
    show Steps p.tables e below (T100.setTop (mkF m 118 #[.val (.ref a0), .val (.ref a1), .val (.ref b3), .val (.ref b66), .val (.int (0 : Int32)), .val (.ref u1), .val (.ref k1), .val (.double r1), .second, .val (.int (1 : Int32))] [(.ref u0)])) _
    refine XS.astore X100.here hx rfl (hb hby d6_118) rfl rfl (l' := #[.val (.ref a0), .val (.ref a1), .val (.ref b3), .val (.ref b66), .val (.int (0 : Int32)), .val (.ref u0), .val (.ref k1), .val (.double r1), .second, .val (.int (1 : Int32))]) rfl ?_
    show Steps p.tables e below (T100.setTop (mkF m 120 #[.val (.ref a0), .val (.ref a1), .val (.ref b3), .val (.ref b66), .val (.int (0 : Int32)), .val (.ref u0), .val (.ref k1), .val (.double r1), .second, .val (.int (1 : Int32))] [])) _
    refine XS.aloadN X100.here hx rfl (hb hby d6_120) rfl rfl ?_
    show Steps p.tables e below (T100.setTop (mkF m 121 #[.val (.ref a0), .val (.ref a1), .val (.ref b3), .val (.ref b66), .val (.int (0 : Int32)), .val (.ref u0), .val (.ref k1), .val (.double r1), .second, .val (.int (1 : Int32))] [(.ref a0)])) _
    exact kt
  have f105 := (f78.other W96 (Or.inl ne_a0_b66))
  obtain ⟨T106, X106, e106, st106⟩ := getF X100 hx hZ hown (host := "") (Or.inl (hw _ (List.mem_of_getElem? (i := 33) rfl))) Via.refl e100 f105 (g := (mkF m 121 #[.val (.ref a0), .val (.ref a1), .val (.ref b3), .val (.ref b66), .val (.int (0 : Int32)), .val (.ref u0), .val (.ref k1), .val (.double r1), .second, .val (.int (1 : Int32))] [(.ref a0)])) rfl rfl (hb hby d6_121)
  have K106 : ∀ t, Steps p.tables e below (T106.setTop (mkF m 124 #[.val (.ref a0), .val (.ref a1), .val (.ref b3), .val (.ref b66), .val (.int (0 : Int32)), .val (.ref u0), .val (.ref k1), .val (.double r1), .second, .val (.int (1 : Int32))] [(.ref pc)])) t → Steps p.tables e below G0 t := fun t kt => K104 t (st106 _ kt)
  have K107 : ∀ t, Steps p.tables e below (T106.setTop (mkF m 126 #[.val (.ref a0), .val (.ref a1), .val (.ref b3), .val (.ref b66), .val (.int (0 : Int32)), .val (.ref u0), .val (.ref k1), .val (.double r1), .second, .val (.int (1 : Int32))] [(.int (0 : Int32)), (.ref pc)])) t → Steps p.tables e below G0 t := by
    intro t kt
    refine K106 t ?_
    refine XS.iload X106.here hx rfl (hb hby d6_124) rfl ?_
    show Steps p.tables e below (T106.setTop (mkF m 126 #[.val (.ref a0), .val (.ref a1), .val (.ref b3), .val (.ref b66), .val (.int (0 : Int32)), .val (.ref u0), .val (.ref k1), .val (.double r1), .second, .val (.int (1 : Int32))] [(.int (0 : Int32)), (.ref pc)])) _
    exact kt
  have f108 := (f81.other W96 ne_pc_b66)
  obtain ⟨cl109, Ar109, qq109, S109, M109, H109, GG109⟩ := id f108
  have hin109 : ¬ ((0 : Int32) < 0 ∨ cl109.slots.size ≤ ((0 : Int32)).toNatClampNeg) := inb_of S109 ⟨by decide, by decide⟩
  have hat109 : cl109.slots[((0 : Int32)).toNatClampNeg]? = some (.ref k0) := Has.at H109 hin109 rfl
  have K110 : ∀ t, Steps p.tables e below (T106.setTop (mkF m 132 #[.val (.ref a0), .val (.ref a1), .val (.ref b3), .val (.ref b66), .val (.int (0 : Int32)), .val (.ref u0), .val (.ref k0), .val (.double r1), .second, .val (.int (1 : Int32))] [(.int (0 : Int32)), (.ref b3)])) t → Steps p.tables e below G0 t := by
    intro t kt
    refine K107 t ?_
    refine X106.aaload hx (j := (0 : Int32)) (v := (.ref k0)) (by rw [e106]; exact (Ar109).1) (State.isArrayOf_alike hZ.alike (Ar109).2.1) rfl (Ar109).2.2 hin109 hat109 (g := (mkF m 126 #[.val (.ref a0), .val (.ref a1), .val (.ref b3), .val (.ref b66), .val (.int (0 : Int32)), .val (.ref u0), .val (.ref k1), .val (.double r1), .second, .val (.int (1 : Int32))] [(.int (0 : Int32)), (.ref pc)])) rfl rfl (hb hby d6_126) _ ?_
    show Steps p.tables e below (T106.setTop (mkF m 127 #[.val (.ref a0), .val (.ref a1), .val (.ref b3), .val (.ref b66), .val (.int (0 : Int32)), .val (.ref u0), .val (.ref k1), .val (.double r1), .second, .val (.int (1 : Int32))] [(.ref k0)])) _
    refine XS.astore X106.here hx rfl (hb hby d6_127) rfl rfl (l' := #[.val (.ref a0), .val (.ref a1), .val (.ref b3), .val (.ref b66), .val (.int (0 : Int32)), .val (.ref u0), .val (.ref k0), .val (.double r1), .second, .val (.int (1 : Int32))]) rfl ?_
    show Steps p.tables e below (T106.setTop (mkF m 129 #[.val (.ref a0), .val (.ref a1), .val (.ref b3), .val (.ref b66), .val (.int (0 : Int32)), .val (.ref u0), .val (.ref k0), .val (.double r1), .second, .val (.int (1 : Int32))] [])) _
    refine XS.aloadN X106.here hx rfl (hb hby d6_129) rfl rfl ?_
    show Steps p.tables e below (T106.setTop (mkF m 130 #[.val (.ref a0), .val (.ref a1), .val (.ref b3), .val (.ref b66), .val (.int (0 : Int32)), .val (.ref u0), .val (.ref k0), .val (.double r1), .second, .val (.int (1 : Int32))] [(.ref b3)])) _
    refine XS.iload X106.here hx rfl (hb hby d6_130) rfl ?_
    show Steps p.tables e below (T106.setTop (mkF m 132 #[.val (.ref a0), .val (.ref a1), .val (.ref b3), .val (.ref b66), .val (.int (0 : Int32)), .val (.ref u0), .val (.ref k0), .val (.double r1), .second, .val (.int (1 : Int32))] [(.int (0 : Int32)), (.ref b3)])) _
    exact kt
  have f111 := (f84.other W96 ne_b3_b66)
  obtain ⟨cl112, Ar112, qq112, S112, M112, H112, GG112⟩ := id f111
  have hin112 : ¬ ((0 : Int32) < 0 ∨ cl112.slots.size ≤ ((0 : Int32)).toNatClampNeg) := inb_of S112 ⟨by decide, by decide⟩
  have hat112 : cl112.slots[((0 : Int32)).toNatClampNeg]? = some (.double r0) := Has.at H112 hin112 rfl
  have K113 : ∀ t, Steps p.tables e below (T106.setTop (mkF m 142 #[.val (.ref a0), .val (.ref a1), .val (.ref b3), .val (.ref b66), .val (.int (0 : Int32)), .val (.ref u0), .val (.ref k0), .val (.double r0), .second, .val (.int (1 : Int32))] [(.ref u0), (.int (1 : Int32))])) t → Steps p.tables e below G0 t := by
    intro t kt
    refine K110 t ?_
    refine X106.daload hx (j := (0 : Int32)) (v := (.double r0)) (by rw [e106]; exact (Ar112).1) (State.isArrayOf_alike hZ.alike (Ar112).2.1) (Ar112).2.2 hin112 hat112 (g := (mkF m 132 #[.val (.ref a0), .val (.ref a1), .val (.ref b3), .val (.ref b66), .val (.int (0 : Int32)), .val (.ref u0), .val (.ref k0), .val (.double r1), .second, .val (.int (1 : Int32))] [(.int (0 : Int32)), (.ref b3)])) rfl rfl (hb hby d6_132) _ ?_
    show Steps p.tables e below (T106.setTop (mkF m 133 #[.val (.ref a0), .val (.ref a1), .val (.ref b3), .val (.ref b66), .val (.int (0 : Int32)), .val (.ref u0), .val (.ref k0), .val (.double r1), .second, .val (.int (1 : Int32))] [(.double r0)])) _
    refine XS.dstore X106.here hx rfl (hb hby d6_133) rfl (l' := #[.val (.ref a0), .val (.ref a1), .val (.ref b3), .val (.ref b66), .val (.int (0 : Int32)), .val (.ref u0), .val (.ref k0), .val (.double r0), .second, .val (.int (1 : Int32))]) rfl ?_
    show Steps p.tables e below (T106.setTop (mkF m 135 #[.val (.ref a0), .val (.ref a1), .val (.ref b3), .val (.ref b66), .val (.int (0 : Int32)), .val (.ref u0), .val (.ref k0), .val (.double r0), .second, .val (.int (1 : Int32))] [])) _
    refine XS.iconst X106.here hx rfl (hb hby d6_135) ?_
    show Steps p.tables e below (T106.setTop (mkF m 136 #[.val (.ref a0), .val (.ref a1), .val (.ref b3), .val (.ref b66), .val (.int (0 : Int32)), .val (.ref u0), .val (.ref k0), .val (.double r0), .second, .val (.int (1 : Int32))] [(.int (1 : Int32))])) _
    refine XS.istore X106.here hx rfl (hb hby d6_136) rfl (l' := #[.val (.ref a0), .val (.ref a1), .val (.ref b3), .val (.ref b66), .val (.int (0 : Int32)), .val (.ref u0), .val (.ref k0), .val (.double r0), .second, .val (.int (1 : Int32))]) rfl ?_
    show Steps p.tables e below (T106.setTop (mkF m 138 #[.val (.ref a0), .val (.ref a1), .val (.ref b3), .val (.ref b66), .val (.int (0 : Int32)), .val (.ref u0), .val (.ref k0), .val (.double r0), .second, .val (.int (1 : Int32))] [])) _
    refine XS.iload X106.here hx rfl (hb hby d6_138) rfl ?_
    show Steps p.tables e below (T106.setTop (mkF m 140 #[.val (.ref a0), .val (.ref a1), .val (.ref b3), .val (.ref b66), .val (.int (0 : Int32)), .val (.ref u0), .val (.ref k0), .val (.double r0), .second, .val (.int (1 : Int32))] [(.int (1 : Int32))])) _
    refine XS.aload X106.here hx rfl (hb hby d6_140) rfl rfl ?_
    show Steps p.tables e below (T106.setTop (mkF m 142 #[.val (.ref a0), .val (.ref a1), .val (.ref b3), .val (.ref b66), .val (.int (0 : Int32)), .val (.ref u0), .val (.ref k0), .val (.double r0), .second, .val (.int (1 : Int32))] [(.ref u0), (.int (1 : Int32))])) _
    exact kt
  have f114 := ((f62.ext E66).other W96 ne_u0_b66)
  obtain ⟨cl115, Ar115, qq115, S115, M115, H115, GG115⟩ := id f114
  have K116 : ∀ t, Steps p.tables e below (T106.setTop (mkF m 152 #[.val (.ref a0), .val (.ref a1), .val (.ref b3), .val (.ref b66), .val (.int (0 : Int32)), .val (.ref u0), .val (.ref k0), .val (.double r0), .second, .val (.int (1 : Int32))] [(.int (1 : Int32)), (.ref k0), (.double r0)])) t → Steps p.tables e below G0 t := by
    intro t kt
    refine K113 t ?_
    refine X106.arraylength hx (by rw [e106]; exact (Ar115).1) (State.isArrayOf_alike hZ.alike (Ar115).2.1) (g := (mkF m 142 #[.val (.ref a0), .val (.ref a1), .val (.ref b3), .val (.ref b66), .val (.int (0 : Int32)), .val (.ref u0), .val (.ref k0), .val (.double r0), .second, .val (.int (1 : Int32))] [(.ref u0), (.int (1 : Int32))])) rfl rfl (hb hby d6_142) _ ?_
    rw [len_of S115 M115]
    show Steps p.tables e below (T106.setTop (mkF m 143 #[.val (.ref a0), .val (.ref a1), .val (.ref b3), .val (.ref b66), .val (.int (0 : Int32)), .val (.ref u0), .val (.ref k0), .val (.double r0), .second, .val (.int (1 : Int32))] [(.int (2 : Int32)), (.int (1 : Int32))])) _
    refine XS.icmpNo X106.here hx rfl (hb hby d6_143) rfl (tlt (by decide)).2.1 ?_
    show Steps p.tables e below (T106.setTop (mkF m 146 #[.val (.ref a0), .val (.ref a1), .val (.ref b3), .val (.ref b66), .val (.int (0 : Int32)), .val (.ref u0), .val (.ref k0), .val (.double r0), .second, .val (.int (1 : Int32))] [])) _
    refine XS.dload X106.here hx rfl (hb hby d6_146) rfl ?_
    show Steps p.tables e below (T106.setTop (mkF m 148 #[.val (.ref a0), .val (.ref a1), .val (.ref b3), .val (.ref b66), .val (.int (0 : Int32)), .val (.ref u0), .val (.ref k0), .val (.double r0), .second, .val (.int (1 : Int32))] [(.double r0)])) _
    refine XS.aload X106.here hx rfl (hb hby d6_148) rfl rfl ?_
    show Steps p.tables e below (T106.setTop (mkF m 150 #[.val (.ref a0), .val (.ref a1), .val (.ref b3), .val (.ref b66), .val (.int (0 : Int32)), .val (.ref u0), .val (.ref k0), .val (.double r0), .second, .val (.int (1 : Int32))] [(.ref k0), (.double r0)])) _
    refine XS.iload X106.here hx rfl (hb hby d6_150) rfl ?_
    show Steps p.tables e below (T106.setTop (mkF m 152 #[.val (.ref a0), .val (.ref a1), .val (.ref b3), .val (.ref b66), .val (.int (0 : Int32)), .val (.ref u0), .val (.ref k0), .val (.double r0), .second, .val (.int (1 : Int32))] [(.int (1 : Int32)), (.ref k0), (.double r0)])) _
    exact kt
  have f117 := ((f64.ext E66).other W96 ne_k0_b66)
  obtain ⟨cl118, Ar118, qq118, S118, M118, H118, GG118⟩ := id f117
  have hin118 : ¬ ((1 : Int32) < 0 ∨ cl118.slots.size ≤ ((1 : Int32)).toNatClampNeg) := inb_of S118 ⟨by decide, by decide⟩
  have hat118 : cl118.slots[((1 : Int32)).toNatClampNeg]? = some (.double c01) := Has.at H118 hin118 rfl
  have K119 : ∀ t, Steps p.tables e below (T106.setTop (mkF m 158 #[.val (.ref a0), .val (.ref a1), .val (.ref b3), .val (.ref b66), .val (.int (0 : Int32)), .val (.ref u0), .val (.ref k0), .val (.double r0), .second, .val (.int (1 : Int32))] [(.int (1 : Int32)), (.ref u0), (.ref b66), (.double c01), (.double r0)])) t → Steps p.tables e below G0 t := by
    intro t kt
    refine K116 t ?_
    refine X106.daload hx (j := (1 : Int32)) (v := (.double c01)) (by rw [e106]; exact (Ar118).1) (State.isArrayOf_alike hZ.alike (Ar118).2.1) (Ar118).2.2 hin118 hat118 (g := (mkF m 152 #[.val (.ref a0), .val (.ref a1), .val (.ref b3), .val (.ref b66), .val (.int (0 : Int32)), .val (.ref u0), .val (.ref k0), .val (.double r0), .second, .val (.int (1 : Int32))] [(.int (1 : Int32)), (.ref k0), (.double r0)])) rfl rfl (hb hby d6_152) _ ?_
    show Steps p.tables e below (T106.setTop (mkF m 153 #[.val (.ref a0), .val (.ref a1), .val (.ref b3), .val (.ref b66), .val (.int (0 : Int32)), .val (.ref u0), .val (.ref k0), .val (.double r0), .second, .val (.int (1 : Int32))] [(.double c01), (.double r0)])) _
    refine XS.aloadN X106.here hx rfl (hb hby d6_153) rfl rfl ?_
    show Steps p.tables e below (T106.setTop (mkF m 154 #[.val (.ref a0), .val (.ref a1), .val (.ref b3), .val (.ref b66), .val (.int (0 : Int32)), .val (.ref u0), .val (.ref k0), .val (.double r0), .second, .val (.int (1 : Int32))] [(.ref b66), (.double c01), (.double r0)])) _
    refine XS.aload X106.here hx rfl (hb hby d6_154) rfl rfl ?_
    show Steps p.tables e below (T106.setTop (mkF m 156 #[.val (.ref a0), .val (.ref a1), .val (.ref b3), .val (.ref b66), .val (.int (0 : Int32)), .val (.ref u0), .val (.ref k0), .val (.double r0), .second, .val (.int (1 : Int32))] [(.ref u0), (.ref b66), (.double c01), (.double r0)])) _
    refine XS.iload X106.here hx rfl (hb hby d6_156) rfl ?_
    show Steps p.tables e below (T106.setTop (mkF m 158 #[.val (.ref a0), .val (.ref a1), .val (.ref b3), .val (.ref b66), .val (.int (0 : Int32)), .val (.ref u0), .val (.ref k0), .val (.double r0), .second, .val (.int (1 : Int32))] [(.int (1 : Int32)), (.ref u0), (.ref b66), (.double c01), (.double r0)])) _
    exact kt
  obtain ⟨cl120, Ar120, qq120, S120, M120, H120, GG120⟩ := id f114
  have hin120 : ¬ ((1 : Int32) < 0 ∨ cl120.slots.size ≤ ((1 : Int32)).toNatClampNeg) := inb_of S120 ⟨by decide, by decide⟩
  have hat120 : cl120.slots[((1 : Int32)).toNatClampNeg]? = some (.int (1 : Int32)) := Has.at H120 hin120 rfl
  have K121 : ∀ t, Steps p.tables e below (T106.setTop (mkF m 159 #[.val (.ref a0), .val (.ref a1), .val (.ref b3), .val (.ref b66), .val (.int (0 : Int32)), .val (.ref u0), .val (.ref k0), .val (.double r0), .second, .val (.int (1 : Int32))] [(.int (1 : Int32)), (.ref b66), (.double c01), (.double r0)])) t → Steps p.tables e below G0 t := by
    intro t kt
    refine K119 t ?_
    refine X106.iaload hx (j := (1 : Int32)) (v := (.int (1 : Int32))) (by rw [e106]; exact (Ar120).1) (State.isArrayOf_alike hZ.alike (Ar120).2.1) (Ar120).2.2 hin120 hat120 (g := (mkF m 158 #[.val (.ref a0), .val (.ref a1), .val (.ref b3), .val (.ref b66), .val (.int (0 : Int32)), .val (.ref u0), .val (.ref k0), .val (.double r0), .second, .val (.int (1 : Int32))] [(.int (1 : Int32)), (.ref u0), (.ref b66), (.double c01), (.double r0)])) rfl rfl (hb hby d6_158) _ ?_
    show Steps p.tables e below (T106.setTop (mkF m 159 #[.val (.ref a0), .val (.ref a1), .val (.ref b3), .val (.ref b66), .val (.int (0 : Int32)), .val (.ref u0), .val (.ref k0), .val (.double r0), .second, .val (.int (1 : Int32))] [(.int (1 : Int32)), (.ref b66), (.double c01), (.double r0)])) _
    exact kt
  obtain ⟨cl122, Ar122, qq122, S122, M122, H122, GG122⟩ := id VL96
  have hin122 : ¬ ((1 : Int32) < 0 ∨ cl122.slots.size ≤ ((1 : Int32)).toNatClampNeg) := inb_of S122 ⟨by decide, by decide⟩
  have hat122 : cl122.slots[((1 : Int32)).toNatClampNeg]? = some (.double (FP.ddiv r1 dd)) := Has.at H122 hin122 rfl
  have K123 : ∀ t, Steps p.tables e below (T106.setTop (mkF m 167 #[.val (.ref a0), .val (.ref a1), .val (.ref b3), .val (.ref b66), .val (.int (0 : Int32)), .val (.ref u0), .val (.ref k0), .val (.double (FP.dsub r0 (FP.dmul c01 (FP.ddiv r1 dd)))), .second, .val (.int ((1 : Int32) + (1 : Int32)))] [])) t → Steps p.tables e below G0 t := by
    intro t kt
    refine K121 t ?_
    refine X106.daload hx (j := (1 : Int32)) (v := (.double (FP.ddiv r1 dd))) (by rw [e106]; exact (Ar122).1) (State.isArrayOf_alike hZ.alike (Ar122).2.1) (Ar122).2.2 hin122 hat122 (g := (mkF m 159 #[.val (.ref a0), .val (.ref a1), .val (.ref b3), .val (.ref b66), .val (.int (0 : Int32)), .val (.ref u0), .val (.ref k0), .val (.double r0), .second, .val (.int (1 : Int32))] [(.int (1 : Int32)), (.ref b66), (.double c01), (.double r0)])) rfl rfl (hb hby d6_159) _ ?_
    show Steps p.tables e below (T106.setTop (mkF m 160 #[.val (.ref a0), .val (.ref a1), .val (.ref b3), .val (.ref b66), .val (.int (0 : Int32)), .val (.ref u0), .val (.ref k0), .val (.double r0), .second, .val (.int (1 : Int32))] [(.double (FP.ddiv r1 dd)), (.double c01), (.double r0)])) _
    refine XS.dmulS X106.here hx rfl (hb hby d6_160) rfl hn2 rfl ?_
    show Steps p.tables e below (T106.setTop (mkF m 161 #[.val (.ref a0), .val (.ref a1), .val (.ref b3), .val (.ref b66), .val (.int (0 : Int32)), .val (.ref u0), .val (.ref k0), .val (.double r0), .second, .val (.int (1 : Int32))] [(.double (FP.dmul c01 (FP.ddiv r1 dd))), (.double r0)])) _
    refine XS.dsubS X106.here hx rfl (hb hby d6_161) rfl hn3 rfl ?_
    show Steps p.tables e below (T106.setTop (mkF m 162 #[.val (.ref a0), .val (.ref a1), .val (.ref b3), .val (.ref b66), .val (.int (0 : Int32)), .val (.ref u0), .val (.ref k0), .val (.double r0), .second, .val (.int (1 : Int32))] [(.double (FP.dsub r0 (FP.dmul c01 (FP.ddiv r1 dd))))])) _
    refine XS.dstore X106.here hx rfl (hb hby d6_162) rfl (l' := #[.val (.ref a0), .val (.ref a1), .val (.ref b3), .val (.ref b66), .val (.int (0 : Int32)), .val (.ref u0), .val (.ref k0), .val (.double (FP.dsub r0 (FP.dmul c01 (FP.ddiv r1 dd)))), .second, .val (.int (1 : Int32))]) rfl ?_
    show Steps p.tables e below (T106.setTop (mkF m 164 #[.val (.ref a0), .val (.ref a1), .val (.ref b3), .val (.ref b66), .val (.int (0 : Int32)), .val (.ref u0), .val (.ref k0), .val (.double (FP.dsub r0 (FP.dmul c01 (FP.ddiv r1 dd)))), .second, .val (.int (1 : Int32))] [])) _
    refine XS.iinc X106.here hx rfl (hb hby d6_164) rfl (l' := #[.val (.ref a0), .val (.ref a1), .val (.ref b3), .val (.ref b66), .val (.int (0 : Int32)), .val (.ref u0), .val (.ref k0), .val (.double (FP.dsub r0 (FP.dmul c01 (FP.ddiv r1 dd)))), .second, .val (.int ((1 : Int32) + (1 : Int32)))]) rfl ?_
    show Steps p.tables e below (T106.setTop (mkF m 167 #[.val (.ref a0), .val (.ref a1), .val (.ref b3), .val (.ref b66), .val (.int (0 : Int32)), .val (.ref u0), .val (.ref k0), .val (.double (FP.dsub r0 (FP.dmul c01 (FP.ddiv r1 dd)))), .second, .val (.int ((1 : Int32) + (1 : Int32)))] [])) _
    exact kt
  rw [show ((1 : Int32) + (1 : Int32)) = (2 : Int32) from by decide] at K123
  have K124 : ∀ t, Steps p.tables e below (T106.setTop (mkF m 142 #[.val (.ref a0), .val (.ref a1), .val (.ref b3), .val (.ref b66), .val (.int (0 : Int32)), .val (.ref u0), .val (.ref k0), .val (.double (FP.dsub r0 (FP.dmul c01 (FP.ddiv r1 dd)))), .second, .val (.int (2 : Int32))] [(.ref u0), (.int (2 : Int32))])) t → Steps p.tables e below G0 t := by
    intro t kt
    refine K123 t ?_
    refine XS.goto X106.here hx rfl (pc0 := 167) (pc' := 138) rfl (hb hby d6_167) (by decide) (by decide) ?_
    show Steps p.tables e below (T106.setTop (mkF m 138 #[.val (.ref a0), .val (.ref a1), .val (.ref b3), .val (.ref b66), .val (.int (0 : Int32)), .val (.ref u0), .val (.ref k0), .val (.double (FP.dsub r0 (FP.dmul c01 (FP.ddiv r1 dd)))), .second, .val (.int (2 : Int32))] [])) _
    refine XS.iload X106.here hx rfl (hb hby d6_138) rfl ?_
    show Steps p.tables e below (T106.setTop (mkF m 140 #[.val (.ref a0), .val (.ref a1), .val (.ref b3), .val (.ref b66), .val (.int (0 : Int32)), .val (.ref u0), .val (.ref k0), .val (.double (FP.dsub r0 (FP.dmul c01 (FP.ddiv r1 dd)))), .second, .val (.int (2 : Int32))] [(.int (2 : Int32))])) _
    refine XS.aload X106.here hx rfl (hb hby d6_140) rfl rfl ?_
    show Steps p.tables e below (T106.setTop (mkF m 142 #[.val (.ref a0), .val (.ref a1), .val (.ref b3), .val (.ref b66), .val (.int (0 : Int32)), .val (.ref u0), .val (.ref k0), .val (.double (FP.dsub r0 (FP.dmul c01 (FP.ddiv r1 dd)))), .second, .val (.int (2 : Int32))] [(.ref u0), (.int (2 : Int32))])) _
    exact kt
  obtain ⟨cl125, Ar125, qq125, S125, M125, H125, GG125⟩ := id f114
  have K126 : ∀ t, Steps p.tables e below (T106.setTop (mkF m 174 #[.val (.ref a0), .val (.ref a1), .val (.ref b3), .val (.ref b66), .val (.int (0 : Int32)), .val (.ref u0), .val (.ref k0), .val (.double (FP.dsub r0 (FP.dmul c01 (FP.ddiv r1 dd)))), .second, .val (.int (2 : Int32))] [(.int (0 : Int32)), (.ref u0), (.ref b66)])) t → Steps p.tables e below G0 t := by
    intro t kt
    refine K124 t ?_
    refine X106.arraylength hx (by rw [e106]; exact (Ar125).1) (State.isArrayOf_alike hZ.alike (Ar125).2.1) (g := (mkF m 142 #[.val (.ref a0), .val (.ref a1), .val (.ref b3), .val (.ref b66), .val (.int (0 : Int32)), .val (.ref u0), .val (.ref k0), .val (.double (FP.dsub r0 (FP.dmul c01 (FP.ddiv r1 dd)))), .second, .val (.int (2 : Int32))] [(.ref u0), (.int (2 : Int32))])) rfl rfl (hb hby d6_142) _ ?_
    rw [len_of S125 M125]
    show Steps p.tables e below (T106.setTop (mkF m 143 #[.val (.ref a0), .val (.ref a1), .val (.ref b3), .val (.ref b66), .val (.int (0 : Int32)), .val (.ref u0), .val (.ref k0), .val (.double (FP.dsub r0 (FP.dmul c01 (FP.ddiv r1 dd)))), .second, .val (.int (2 : Int32))] [(.int (2 : Int32)), (.int (2 : Int32))])) _
    refine XS.icmpYes X106.here hx rfl (pc0 := 143) (pc' := 170) rfl (hb hby d6_143) rfl (flt (by decide)).2.1 (by decide) (by decide) ?_
    show Steps p.tables e below (T106.setTop (mkF m 170 #[.val (.ref a0), .val (.ref a1), .val (.ref b3), .val (.ref b66), .val (.int (0 : Int32)), .val (.ref u0), .val (.ref k0), .val (.double (FP.dsub r0 (FP.dmul c01 (FP.ddiv r1 dd)))), .second, .val (.int (2 : Int32))] [])) _
    refine XS.aloadN X106.here hx rfl (hb hby d6_170) rfl rfl ?_
    show Steps p.tables e below (T106.setTop (mkF m 171 #[.val (.ref a0), .val (.ref a1), .val (.ref b3), .val (.ref b66), .val (.int (0 : Int32)), .val (.ref u0), .val (.ref k0), .val (.double (FP.dsub r0 (FP.dmul c01 (FP.ddiv r1 dd)))), .second, .val (.int (2 : Int32))] [(.ref b66)])) _
    refine XS.aload X106.here hx rfl (hb hby d6_171) rfl rfl ?_
    show Steps p.tables e below (T106.setTop (mkF m 173 #[.val (.ref a0), .val (.ref a1), .val (.ref b3), .val (.ref b66), .val (.int (0 : Int32)), .val (.ref u0), .val (.ref k0), .val (.double (FP.dsub r0 (FP.dmul c01 (FP.ddiv r1 dd)))), .second, .val (.int (2 : Int32))] [(.ref u0), (.ref b66)])) _
    refine XS.iconst X106.here hx rfl (hb hby d6_173) ?_
    show Steps p.tables e below (T106.setTop (mkF m 174 #[.val (.ref a0), .val (.ref a1), .val (.ref b3), .val (.ref b66), .val (.int (0 : Int32)), .val (.ref u0), .val (.ref k0), .val (.double (FP.dsub r0 (FP.dmul c01 (FP.ddiv r1 dd)))), .second, .val (.int (2 : Int32))] [(.int (0 : Int32)), (.ref u0), (.ref b66)])) _
    exact kt
  obtain ⟨cl127, Ar127, qq127, S127, M127, H127, GG127⟩ := id f114
  have hin127 : ¬ ((0 : Int32) < 0 ∨ cl127.slots.size ≤ ((0 : Int32)).toNatClampNeg) := inb_of S127 ⟨by decide, by decide⟩
  have hat127 : cl127.slots[((0 : Int32)).toNatClampNeg]? = some (.int (0 : Int32)) := Has.at H127 hin127 rfl
  have K128 : ∀ t, Steps p.tables e below (T106.setTop (mkF m 180 #[.val (.ref a0), .val (.ref a1), .val (.ref b3), .val (.ref b66), .val (.int (0 : Int32)), .val (.ref u0), .val (.ref k0), .val (.double (FP.dsub r0 (FP.dmul c01 (FP.ddiv r1 dd)))), .second, .val (.int (2 : Int32))] [(.int (0 : Int32)), (.ref k0), (.double (FP.dsub r0 (FP.dmul c01 (FP.ddiv r1 dd)))), (.int (0 : Int32)), (.ref b66)])) t → Steps p.tables e below G0 t := by
    intro t kt
    refine K126 t ?_
    refine X106.iaload hx (j := (0 : Int32)) (v := (.int (0 : Int32))) (by rw [e106]; exact (Ar127).1) (State.isArrayOf_alike hZ.alike (Ar127).2.1) (Ar127).2.2 hin127 hat127 (g := (mkF m 174 #[.val (.ref a0), .val (.ref a1), .val (.ref b3), .val (.ref b66), .val (.int (0 : Int32)), .val (.ref u0), .val (.ref k0), .val (.double (FP.dsub r0 (FP.dmul c01 (FP.ddiv r1 dd)))), .second, .val (.int (2 : Int32))] [(.int (0 : Int32)), (.ref u0), (.ref b66)])) rfl rfl (hb hby d6_174) _ ?_
    show Steps p.tables e below (T106.setTop (mkF m 175 #[.val (.ref a0), .val (.ref a1), .val (.ref b3), .val (.ref b66), .val (.int (0 : Int32)), .val (.ref u0), .val (.ref k0), .val (.double (FP.dsub r0 (FP.dmul c01 (FP.ddiv r1 dd)))), .second, .val (.int (2 : Int32))] [(.int (0 : Int32)), (.ref b66)])) _
    refine XS.dload X106.here hx rfl (hb hby d6_175) rfl ?_
    show Steps p.tables e below (T106.setTop (mkF m 177 #[.val (.ref a0), .val (.ref a1), .val (.ref b3), .val (.ref b66), .val (.int (0 : Int32)), .val (.ref u0), .val (.ref k0), .val (.double (FP.dsub r0 (FP.dmul c01 (FP.ddiv r1 dd)))), .second, .val (.int (2 : Int32))] [(.double (FP.dsub r0 (FP.dmul c01 (FP.ddiv r1 dd)))), (.int (0 : Int32)), (.ref b66)])) _
    refine XS.aload X106.here hx rfl (hb hby d6_177) rfl rfl ?_
    show Steps p.tables e below (T106.setTop (mkF m 179 #[.val (.ref a0), .val (.ref a1), .val (.ref b3), .val (.ref b66), .val (.int (0 : Int32)), .val (.ref u0), .val (.ref k0), .val (.double (FP.dsub r0 (FP.dmul c01 (FP.ddiv r1 dd)))), .second, .val (.int (2 : Int32))] [(.ref k0), (.double (FP.dsub r0 (FP.dmul c01 (FP.ddiv r1 dd)))), (.int (0 : Int32)), (.ref b66)])) _
    refine XS.iconst X106.here hx rfl (hb hby d6_179) ?_
    show Steps p.tables e below (T106.setTop (mkF m 180 #[.val (.ref a0), .val (.ref a1), .val (.ref b3), .val (.ref b66), .val (.int (0 : Int32)), .val (.ref u0), .val (.ref k0), .val (.double (FP.dsub r0 (FP.dmul c01 (FP.ddiv r1 dd)))), .second, .val (.int (2 : Int32))] [(.int (0 : Int32)), (.ref k0), (.double (FP.dsub r0 (FP.dmul c01 (FP.ddiv r1 dd)))), (.int (0 : Int32)), (.ref b66)])) _
    exact kt
  obtain ⟨cl129, Ar129, qq129, S129, M129, H129, GG129⟩ := id f117
  have hin129 : ¬ ((0 : Int32) < 0 ∨ cl129.slots.size ≤ ((0 : Int32)).toNatClampNeg) := inb_of S129 ⟨by decide, by decide⟩
  have hat129 : cl129.slots[((0 : Int32)).toNatClampNeg]? = some (.double c00) := Has.at H129 hin129 rfl
  have K130 : ∀ t, Steps p.tables e below (T106.setTop (mkF m 182 #[.val (.ref a0), .val (.ref a1), .val (.ref b3), .val (.ref b66), .val (.int (0 : Int32)), .val (.ref u0), .val (.ref k0), .val (.double (FP.dsub r0 (FP.dmul c01 (FP.ddiv r1 dd)))), .second, .val (.int (2 : Int32))] [(.double (FP.ddiv (FP.dsub r0 (FP.dmul c01 (FP.ddiv r1 dd))) c00)), (.int (0 : Int32)), (.ref b66)])) t → Steps p.tables e below G0 t := by
    intro t kt
    refine K128 t ?_
    refine X106.daload hx (j := (0 : Int32)) (v := (.double c00)) (by rw [e106]; exact (Ar129).1) (State.isArrayOf_alike hZ.alike (Ar129).2.1) (Ar129).2.2 hin129 hat129 (g := (mkF m 180 #[.val (.ref a0), .val (.ref a1), .val (.ref b3), .val (.ref b66), .val (.int (0 : Int32)), .val (.ref u0), .val (.ref k0), .val (.double (FP.dsub r0 (FP.dmul c01 (FP.ddiv r1 dd)))), .second, .val (.int (2 : Int32))] [(.int (0 : Int32)), (.ref k0), (.double (FP.dsub r0 (FP.dmul c01 (FP.ddiv r1 dd)))), (.int (0 : Int32)), (.ref b66)])) rfl rfl (hb hby d6_180) _ ?_
    show Steps p.tables e below (T106.setTop (mkF m 181 #[.val (.ref a0), .val (.ref a1), .val (.ref b3), .val (.ref b66), .val (.int (0 : Int32)), .val (.ref u0), .val (.ref k0), .val (.double (FP.dsub r0 (FP.dmul c01 (FP.ddiv r1 dd)))), .second, .val (.int (2 : Int32))] [(.double c00), (.double (FP.dsub r0 (FP.dmul c01 (FP.ddiv r1 dd)))), (.int (0 : Int32)), (.ref b66)])) _
    refine XS.ddivS X106.here hx rfl (hb hby d6_181) rfl hn4 rfl ?_
    show Steps p.tables e below (T106.setTop (mkF m 182 #[.val (.ref a0), .val (.ref a1), .val (.ref b3), .val (.ref b66), .val (.int (0 : Int32)), .val (.ref u0), .val (.ref k0), .val (.double (FP.dsub r0 (FP.dmul c01 (FP.ddiv r1 dd)))), .second, .val (.int (2 : Int32))] [(.double (FP.ddiv (FP.dsub r0 (FP.dmul c01 (FP.ddiv r1 dd))) c00)), (.int (0 : Int32)), (.ref b66)])) _
    exact kt
  obtain ⟨cl131, Ar131, qq131, S131, M131, H131, GG131⟩ := id VL96
  have hin131 : ¬ ((0 : Int32) < 0 ∨ cl131.slots.size ≤ ((0 : Int32)).toNatClampNeg) := inb_of S131 ⟨by decide, by decide⟩
  obtain ⟨T132, h132, X132, e132, W132, st132⟩ := stD X106 hx hZ e106 Ar131 (j := (0 : Int32)) hin131 (g := (mkF m 182 #[.val (.ref a0), .val (.ref a1), .val (.ref b3), .val (.ref b66), .val (.int (0 : Int32)), .val (.ref u0), .val (.ref k0), .val (.double (FP.dsub r0 (FP.dmul c01 (FP.ddiv r1 dd)))), .second, .val (.int (2 : Int32))] [(.double (FP.ddiv (FP.dsub r0 (FP.dmul c01 (FP.ddiv r1 dd))) c00)), (.int (0 : Int32)), (.ref b66)])) rfl rfl (hb hby d6_182)
  have K132 : ∀ t, Steps p.tables e below (T132.setTop (mkF m 183 #[.val (.ref a0), .val (.ref a1), .val (.ref b3), .val (.ref b66), .val (.int (0 : Int32)), .val (.ref u0), .val (.ref k0), .val (.double (FP.dsub r0 (FP.dmul c01 (FP.ddiv r1 dd)))), .second, .val (.int (2 : Int32))] [])) t → Steps p.tables e below G0 t := fun t kt => K130 t (st132 _ kt)
  have Z132 : n0 ≤ h132.size := Nat.le_trans Z96 (Keep.of_wr W132).1
  have VL132 : Arv Z h132 b66 k66 .double (2 : Int32) [(.double (FP.ddiv (FP.dsub r0 (FP.dmul c01 (FP.ddiv r1 dd))) c00)), (.double (FP.ddiv r1 dd))] (.double 0) := Arv.set Ar131 qq131 S131 M131 H131 GG131 rfl W132 0 rfl (Nat.le_of_ble_eq_true rfl)
  have N132 := Fr.snoc X132 N96 gn66
  have K133 : ∀ t, Steps p.tables e below (T132.setTop (mkF m 186 #[.val (.ref a0), .val (.ref a1), .val (.ref b3), .val (.ref b66), .val (.int ((0 : Int32) + (-1 : Int32))), .val (.ref u0), .val (.ref k0), .val (.double (FP.dsub r0 (FP.dmul c01 (FP.ddiv r1 dd)))), .second, .val (.int (2 : Int32))] [])) t → Steps p.tables e below G0 t := by
    intro t kt
    refine K132 t ?_
    refine XS.iinc X132.here hx rfl (hb hby d6_183) rfl (l' := #[.val (.ref a0), .val (.ref a1), .val (.ref b3), .val (.ref b66), .val (.int ((0 : Int32) + (-1 : Int32))), .val (.ref u0), .val (.ref k0), .val (.double (FP.dsub r0 (FP.dmul c01 (FP.ddiv r1 dd)))), .second, .val (.int (2 : Int32))]) rfl ?_
    show Steps p.tables e below (T132.setTop (mkF m 186 #[.val (.ref a0), .val (.ref a1), .val (.ref b3), .val (.ref b66), .val (.int ((0 : Int32) + (-1 : Int32))), .val (.ref u0), .val (.ref k0), .val (.double (FP.dsub r0 (FP.dmul c01 (FP.ddiv r1 dd)))), .second, .val (.int (2 : Int32))] [])) _
    exact kt
  rw [show ((0 : Int32) + (-1 : Int32)) = (-1 : Int32) from by decide] at K133
  have K134 : ∀ t, Steps p.tables e below (T132.setTop (mkF m 190 #[.val (.ref a0), .val (.ref a1), .val (.ref b3), .val (.ref b66), .val (.int (-1 : Int32)), .val (.ref u0), .val (.ref k0), .val (.double (FP.dsub r0 (FP.dmul c01 (FP.ddiv r1 dd)))), .second, .val (.int (2 : Int32))] [(.ref b66)])) t → Steps p.tables e below G0 t := by
    intro t kt
    refine K133 t ?_
    refine XS.goto X132.here hx rfl (pc0 := 186) (pc' := 106) rfl (hb hby d6_186) (by decide) (by decide) ?_
    show Steps p.tables e below (T132.setTop (mkF m 106 #[.val (.ref a0), .val (.ref a1), .val (.ref b3), .val (.ref b66), .val (.int (-1 : Int32)), .val (.ref u0), .val (.ref k0), .val (.double (FP.dsub r0 (FP.dmul c01 (FP.ddiv r1 dd)))), .second, .val (.int (2 : Int32))] [])) _
    refine XS.iload X132.here hx rfl (hb hby d6_106) rfl ?_
    show Steps p.tables e below (T132.setTop (mkF m 108 #[.val (.ref a0), .val (.ref a1), .val (.ref b3), .val (.ref b66), .val (.int (-1 : Int32)), .val (.ref u0), .val (.ref k0), .val (.double (FP.dsub r0 (FP.dmul c01 (FP.ddiv r1 dd)))), .second, .val (.int (2 : Int32))] [(.int (-1 : Int32))])) _
    refine XS.ifYes X132.here hx rfl (pc0 := 108) (pc' := 189) rfl (hb hby d6_108) rfl ((if0 _ _).trans (tlt (by decide)).1) (by decide) (by decide) ?_
    show Steps p.tables e below (T132.setTop (mkF m 189 #[.val (.ref a0), .val (.ref a1), .val (.ref b3), .val (.ref b66), .val (.int (-1 : Int32)), .val (.ref u0), .val (.ref k0), .val (.double (FP.dsub r0 (FP.dmul c01 (FP.ddiv r1 dd)))), .second, .val (.int (2 : Int32))] [])) _
    refine XS.aloadN X132.here hx rfl (hb hby d6_189) rfl rfl ?_
    show Steps p.tables e below (T132.setTop (mkF m 190 #[.val (.ref a0), .val (.ref a1), .val (.ref b3), .val (.ref b66), .val (.int (-1 : Int32)), .val (.ref u0), .val (.ref k0), .val (.double (FP.dsub r0 (FP.dmul c01 (FP.ddiv r1 dd)))), .second, .val (.int (2 : Int32))] [(.ref b66)])) _
    exact kt
  have KQ135_0 := Keep.refl h0 []
  have sz135_3 := Nat.le_trans KQ135_0.1 (Nat.le_of_eq g3.symm)
  have KQ135_1 := KQ135_0.ext E3
  have KQ135_2 := KQ135_1.wr W24 (Or.inr sz135_3)
  have KQ135_3 := KQ135_2.wr W46 (Or.inr sz135_3)
  have sz135_66 := Nat.le_trans KQ135_3.1 (Nat.le_of_eq g66.symm)
  have KQ135_4 := KQ135_3.ext E66
  have KQ135_5 := KQ135_4.wr W96 (Or.inr sz135_66)
  have KQ135_6 := KQ135_5.wr W132 (Or.inr sz135_66)
  obtain ⟨fs, hr, hrun, hended, hW, hsame⟩ := X132.leave (v := some (.ref b66)) (fun h => by rw [Bd.returns] at h; cases h)
  refine ⟨_, _, ?_, hrun, hended, _, _, rfl, ?_, ⟨_, rfl⟩, hW, hsame.mono (by decide) (by decide)⟩
  · rw [← hG0]
    refine K134 _ ?_
    exact retOut X132 hx (t := (.array .double)) Bd.returns rfl (Or.inr (Or.inr (Or.inr (Or.inr ⟨rfl, rfl, rfl⟩)))) (hb hby d6_190) hr
  · show Q6_00 Z a0 a1 rb ml ln pe pu pc u0 u1 k0 k1 kr km kl ke ku kc kq kh1 kh2 kh3 kh4 rd lrb lml r0 r1 c00 c01 dd h0 n0 _ T132.heap _
    rw [e132]
    exact ⟨b66, _, rfl, N132, KQ135_6, VL132⟩
theorem ef_rm6_01 (m : MethodId) (a0 : Addr) (a1 : Addr) : entryFrame m #[(.ref a0), (.ref a1)] 10 = (mkF m 0 #[.val (.ref a0), .val (.ref a1), .unset, .unset, .unset, .unset, .unset, .unset, .unset, .unset] []) := by first | (simp [entryFrame, mkF, argsToLocals, Value.category]; done) | rfl
def Q6_01 (Z : State) (a0 : Addr) (a1 : Addr) (rb : Addr) (ml : Addr) (ln : Addr) (pe : Addr) (pu : Addr) (pc : Addr) (u0 : Addr) (u1 : Addr) (k0 : Addr) (k1 : Addr) (kr : ClassId) (km : ClassId) (kl : ClassId) (ke : ClassId) (ku : ClassId) (kc : ClassId) (kq : ClassId) (kh1 : ClassId) (kh2 : ClassId) (kh3 : ClassId) (kh4 : ClassId) (rd : Int64) (lrb : List Value) (lml : List Value) (r0 : UInt64) (r1 : UInt64) (c00 : UInt64) (c01 : UInt64) (dd : UInt64) (h0 : Heap) (n0 : Nat) (v : Option Value) (h : Heap) (L : List Loc) : Prop := ∃ (r : Addr) (kx : ClassId), v = some (.ref r) ∧ Fr n0 L ∧ Keep h0 h [] ∧ Arv Z h r kx .double (2 : Int32) [(.double (FP.ddiv r1 dd)), (.double (FP.ddiv (FP.dsub r0 (FP.dmul c01 (FP.ddiv r1 dd))) c00))] (.double 0)
set_option maxRecDepth 65536 in
set_option maxHeartbeats 40000000 in
theorem rm6_01 (l : Launch) (Z : State) (aa : Array Value) (hw : ∀ d ∈ tables_1, d.before aa Z = true) (ws : List Jvm.Cond) (a0 : Addr) (a1 : Addr) (rb : Addr) (ml : Addr) (ln : Addr) (pe : Addr) (pu : Addr) (pc : Addr) (u0 : Addr) (u1 : Addr) (k0 : Addr) (k1 : Addr) (kr : ClassId) (km : ClassId) (kl : ClassId) (ke : ClassId) (ku : ClassId) (kc : ClassId) (kq : ClassId) (kh1 : ClassId) (kh2 : ClassId) (kh3 : ClassId) (kh4 : ClassId) (rd : Int64) (lrb : List Value) (lml : List Value) (r0 : UInt64) (r1 : UInt64) (c00 : UInt64) (c01 : UInt64) (dd : UInt64) (h0 : Heap) (n0 : Nat) (Z0 : n0 ≤ h0.size) (FA : own_Fac Z h0 a0 rb ml ln pe pu pc kr km kl ke ku kc (2 : Int32) (2 : Int32) rd lrb lml [(.int (0 : Int32)), (.int (0 : Int32))] [(.int (0 : Int32)), (.int (1 : Int32))] [(.ref u0), (.ref u1)] [(.ref k0), (.ref k1)]) (V_a1 : Arv Z h0 a1 kq .double (2 : Int32) [(.double r0), (.double r1)] (.double 0)) (V_u0 : Arv Z h0 u0 kh1 .int (2 : Int32) [(.int (1 : Int32)), (.int (0 : Int32))] (.int (0 : Int32))) (V_u1 : Arv Z h0 u1 kh2 .int (1 : Int32) [(.int (0 : Int32))] (.int (0 : Int32))) (V_k0 : Arv Z h0 k0 kh3 .double (2 : Int32) [(.double c00), (.double c01)] (.double 0)) (V_k1 : Arv Z h0 k1 kh4 .double (1 : Int32) [(.double dd)] (.double 0)) (hn1 : NoNaN64 (FP.ddiv r1 dd)) (hn2 : NoNaN64 (FP.dmul c01 (FP.ddiv r1 dd))) (hn3 : NoNaN64 (FP.dsub r0 (FP.dmul c01 (FP.ddiv r1 dd)))) (hn4 : NoNaN64 (FP.ddiv (FP.dsub r0 (FP.dmul c01 (FP.ddiv r1 dd))) c00)) :
    MetFree l (⟨"com/example/sondage/sondage/inference/Factorization", "solve", "([D)[D"⟩ : MethodName) (head1 (Jvm.Cond.code (⟨"com/example/sondage/sondage/inference/Factorization", "solve", "([D)[D"⟩ : MethodName) prog_18_method_7_code 10 (some (.array .double)) :: ws) ({ frames := 0, cells := 2, slots := 4, locals := 0 } : Room)) (fun a U => a = #[(.ref a0), (.ref a1)] ∧ Z.Warmed39 U.vm ∧ U.heap = h0) (fun _ _ _ _ _ => True) (fun _ U o U' => ∃ v L, o = .returned v ∧ Q6_01 Z a0 a1 rb ml ln pe pu pc u0 u1 k0 k1 kr km kl ke ku kc kq kh1 kh2 kh3 kh4 rd lrb lml r0 r1 c00 c01 dd h0 n0 v U'.heap L ∧ FrameEnd U o U' L ({ frames := 0, cells := 2, slots := 4, locals := 0 } : Room).cells ({ frames := 0, cells := 2, slots := 4, locals := 0 } : Room).slots) := by
  refine MetFree.of_bodySF (plainFor_of_name pn_com_example_sondage_sondage_inference_Factorization) hisR ?_
  intro p e s m args below meth c s₁ Bd hml0 hP hK
  obtain ⟨rfl, hZ, hh⟩ := hP
  have hx := Bd.exec
  have hby := Bd.bytes
  have hml : c.maxLocals = 10 := hml0
  have hown : s.vm.findClass "com/example/sondage/sondage/inference/Factorization" = some m.cls := findClass_of_methodNamed Bd.named
  have hnm := (name_of_methodNamed Bd.named Bd.method).1
  have X0 : Stand p l e ({ frames := 0, cells := 2, slots := 4, locals := 0 } : Room) s m #[(.ref a0), (.ref a1)] below meth c s₁ [] 0 0 := Stand.of_body Bd
  have e0 : s₁.heap = h0 := by rw [← hh, Bd.state]; rfl
  have N0 := Fr.nil n0
  obtain ⟨G0, hG0⟩ : ∃ G, G = s₁.setTop (entryFrame m #[(.ref a0), (.ref a1)] 10) := ⟨_, rfl⟩
  have K0 : ∀ t, Steps p.tables e below (s₁.setTop (mkF m 0 #[.val (.ref a0), .val (.ref a1), .unset, .unset, .unset, .unset, .unset, .unset, .unset, .unset] [])) t → Steps p.tables e below G0 t := fun t k => by rw [hG0]; exact castTop (ef_rm6_01 m a0 a1) k
  obtain ⟨fc_0, fc_1, fc_2, fc_3, fc_4, fc_5, fc_6, fc_7, fc_8, fc_9, fc_10, fc_11, fc_12, fc_13, fc_14, fc_15⟩ := id FA
  have K1 : ∀ t, Steps p.tables e below (s₁.setTop (mkF m 1 #[.val (.ref a0), .val (.ref a1), .unset, .unset, .unset, .unset, .unset, .unset, .unset, .unset] [(.ref a0)])) t → Steps p.tables e below G0 t := by
    intro t kt
    refine K0 t ?_
    refine XS.aloadN X0.here hx rfl (hb hby d6_0) rfl rfl ?_
    show Steps p.tables e below (s₁.setTop (mkF m 1 #[.val (.ref a0), .val (.ref a1), .unset, .unset, .unset, .unset, .unset, .unset, .unset, .unset] [(.ref a0)])) _
    exact kt
  obtain ⟨T2, X2, e2, st2⟩ := getF X0 hx hZ hown (host := "") (Or.inl (hw _ (List.mem_of_getElem? (i := 41) rfl))) Via.refl e0 fc_2 (g := (mkF m 1 #[.val (.ref a0), .val (.ref a1), .unset, .unset, .unset, .unset, .unset, .unset, .unset, .unset] [(.ref a0)])) rfl rfl (hb hby d6_1)
  have K2 : ∀ t, Steps p.tables e below (T2.setTop (mkF m 4 #[.val (.ref a0), .val (.ref a1), .unset, .unset, .unset, .unset, .unset, .unset, .unset, .unset] [(.int (2 : Int32))])) t → Steps p.tables e below G0 t := fun t kt => K1 t (st2 _ kt)
  obtain ⟨T3, h3, k3, X3, e3, E3, A3, EA3, st3⟩ := newPE X2 hx hZ (hw _ (List.mem_of_getElem? (i := 35) rfl)) e2 (g := (mkF m 4 #[.val (.ref a0), .val (.ref a1), .unset, .unset, .unset, .unset, .unset, .unset, .unset, .unset] [(.int (2 : Int32))])) rfl (hb hby d6_4) rfl (by decide) (cap := 2) (by decide) (by decide) (by decide) (by decide) (ad := "[D") (by decide)
  obtain ⟨b3, g3⟩ : ∃ z, z = h0.size := ⟨_, rfl⟩
  rw [← g3] at A3 EA3 st3
  have V3 := Arv.new A3 (by decide)
  have gn3 : n0 ≤ b3 := Nat.le_trans Z0 (Nat.le_of_eq g3.symm)
  have Z3 : n0 ≤ h3.size := Nat.le_trans Z0 E3.1
  have K3 : ∀ t, Steps p.tables e below (T3.setTop (mkF m 6 #[.val (.ref a0), .val (.ref a1), .unset, .unset, .unset, .unset, .unset, .unset, .unset, .unset] [(.ref b3)])) t → Steps p.tables e below G0 t := fun t kt => K2 t (st3 _ kt)
  have ne_a0_b3 : a0 ≠ b3 := Nat.ne_of_lt (Nat.lt_of_lt_of_le (fc_0).lt (Nat.le_of_eq g3.symm))
  have ne_rb_b3 : rb ≠ b3 := Nat.ne_of_lt (Nat.lt_of_lt_of_le (fc_10).lt (Nat.le_of_eq g3.symm))
  have ne_ml_b3 : ml ≠ b3 := Nat.ne_of_lt (Nat.lt_of_lt_of_le (fc_11).lt (Nat.le_of_eq g3.symm))
  have ne_ln_b3 : ln ≠ b3 := Nat.ne_of_lt (Nat.lt_of_lt_of_le (fc_12).lt (Nat.le_of_eq g3.symm))
  have ne_pe_b3 : pe ≠ b3 := Nat.ne_of_lt (Nat.lt_of_lt_of_le (fc_13).lt (Nat.le_of_eq g3.symm))
  have ne_pu_b3 : pu ≠ b3 := Nat.ne_of_lt (Nat.lt_of_lt_of_le (fc_14).lt (Nat.le_of_eq g3.symm))
  have ne_pc_b3 : pc ≠ b3 := Nat.ne_of_lt (Nat.lt_of_lt_of_le (fc_15).lt (Nat.le_of_eq g3.symm))
  have ne_a1_b3 : a1 ≠ b3 := Nat.ne_of_lt (Nat.lt_of_lt_of_le (V_a1).lt (Nat.le_of_eq g3.symm))
  have ne_u0_b3 : u0 ≠ b3 := Nat.ne_of_lt (Nat.lt_of_lt_of_le (V_u0).lt (Nat.le_of_eq g3.symm))
  have ne_u1_b3 : u1 ≠ b3 := Nat.ne_of_lt (Nat.lt_of_lt_of_le (V_u1).lt (Nat.le_of_eq g3.symm))
  have ne_k0_b3 : k0 ≠ b3 := Nat.ne_of_lt (Nat.lt_of_lt_of_le (V_k0).lt (Nat.le_of_eq g3.symm))
  have ne_k1_b3 : k1 ≠ b3 := Nat.ne_of_lt (Nat.lt_of_lt_of_le (V_k1).lt (Nat.le_of_eq g3.symm))
  have VL3 : Arv Z h3 b3 k3 .double (2 : Int32) [(.double 0), (.double 0)] (.double 0) := V3.pad (pad_rep [] (.double 0) 2)
  have K4 : ∀ t, Steps p.tables e below (T3.setTop (mkF m 11 #[.val (.ref a0), .val (.ref a1), .val (.ref b3), .val (.int (0 : Int32)), .unset, .unset, .unset, .unset, .unset, .unset] [(.ref a0), (.int (0 : Int32))])) t → Steps p.tables e below G0 t := by
    intro t kt
    refine K3 t ?_
    refine XS.astoreN X3.here hx rfl (hb hby d6_6) rfl rfl (l' := #[.val (.ref a0), .val (.ref a1), .val (.ref b3), .unset, .unset, .unset, .unset, .unset, .unset, .unset]) rfl ?_
    show Steps p.tables e below (T3.setTop (mkF m 7 #[.val (.ref a0), .val (.ref a1), .val (.ref b3), .unset, .unset, .unset, .unset, .unset, .unset, .unset] [])) _
    refine XS.iconst X3.here hx rfl (hb hby d6_7) ?_
    show Steps p.tables e below (T3.setTop (mkF m 8 #[.val (.ref a0), .val (.ref a1), .val (.ref b3), .unset, .unset, .unset, .unset, .unset, .unset, .unset] [(.int (0 : Int32))])) _
    refine XS.istoreN X3.here hx rfl (hb hby d6_8) rfl (l' := #[.val (.ref a0), .val (.ref a1), .val (.ref b3), .val (.int (0 : Int32)), .unset, .unset, .unset, .unset, .unset, .unset]) rfl ?_
    show Steps p.tables e below (T3.setTop (mkF m 9 #[.val (.ref a0), .val (.ref a1), .val (.ref b3), .val (.int (0 : Int32)), .unset, .unset, .unset, .unset, .unset, .unset] [])) _
    refine XS.iloadN X3.here hx rfl (hb hby d6_9) rfl ?_
    show Steps p.tables e below (T3.setTop (mkF m 10 #[.val (.ref a0), .val (.ref a1), .val (.ref b3), .val (.int (0 : Int32)), .unset, .unset, .unset, .unset, .unset, .unset] [(.int (0 : Int32))])) _
    refine XS.aloadN X3.here hx rfl (hb hby d6_10) rfl rfl ?_
    show Steps p.tables e below (T3.setTop (mkF m 11 #[.val (.ref a0), .val (.ref a1), .val (.ref b3), .val (.int (0 : Int32)), .unset, .unset, .unset, .unset, .unset, .unset] [(.ref a0), (.int (0 : Int32))])) _
    exact kt
  have f5 := (fc_2.ext E3)
  obtain ⟨T6, X6, e6, st6⟩ := getF X3 hx hZ hown (host := "") (Or.inl (hw _ (List.mem_of_getElem? (i := 41) rfl))) Via.refl e3 f5 (g := (mkF m 11 #[.val (.ref a0), .val (.ref a1), .val (.ref b3), .val (.int (0 : Int32)), .unset, .unset, .unset, .unset, .unset, .unset] [(.ref a0), (.int (0 : Int32))])) rfl rfl (hb hby d6_11)
  have K6 : ∀ t, Steps p.tables e below (T6.setTop (mkF m 14 #[.val (.ref a0), .val (.ref a1), .val (.ref b3), .val (.int (0 : Int32)), .unset, .unset, .unset, .unset, .unset, .unset] [(.int (2 : Int32)), (.int (0 : Int32))])) t → Steps p.tables e below G0 t := fun t kt => K4 t (st6 _ kt)
  have K7 : ∀ t, Steps p.tables e below (T6.setTop (mkF m 18 #[.val (.ref a0), .val (.ref a1), .val (.ref b3), .val (.int (0 : Int32)), .unset, .unset, .unset, .unset, .unset, .unset] [(.ref a0)])) t → Steps p.tables e below G0 t := by
    intro t kt
    refine K6 t ?_
    refine XS.icmpNo X6.here hx rfl (hb hby d6_14) rfl (tlt (by decide)).2.1 ?_
    show Steps p.tables e below (T6.setTop (mkF m 17 #[.val (.ref a0), .val (.ref a1), .val (.ref b3), .val (.int (0 : Int32)), .unset, .unset, .unset, .unset, .unset, .unset] [])) _
    refine XS.aloadN X6.here hx rfl (hb hby d6_17) rfl rfl ?_
    show Steps p.tables e below (T6.setTop (mkF m 18 #[.val (.ref a0), .val (.ref a1), .val (.ref b3), .val (.int (0 : Int32)), .unset, .unset, .unset, .unset, .unset, .unset] [(.ref a0)])) _
    exact kt
  have f8 := (fc_7.ext E3)
  obtain ⟨T9, X9, e9, st9⟩ := getF X6 hx hZ hown (host := "") (Or.inl (hw _ (List.mem_of_getElem? (i := 29) rfl))) Via.refl e6 f8 (g := (mkF m 18 #[.val (.ref a0), .val (.ref a1), .val (.ref b3), .val (.int (0 : Int32)), .unset, .unset, .unset, .unset, .unset, .unset] [(.ref a0)])) rfl rfl (hb hby d6_18)
  have K9 : ∀ t, Steps p.tables e below (T9.setTop (mkF m 21 #[.val (.ref a0), .val (.ref a1), .val (.ref b3), .val (.int (0 : Int32)), .unset, .unset, .unset, .unset, .unset, .unset] [(.ref pe)])) t → Steps p.tables e below G0 t := fun t kt => K7 t (st9 _ kt)
  have K10 : ∀ t, Steps p.tables e below (T9.setTop (mkF m 22 #[.val (.ref a0), .val (.ref a1), .val (.ref b3), .val (.int (0 : Int32)), .unset, .unset, .unset, .unset, .unset, .unset] [(.int (0 : Int32)), (.ref pe)])) t → Steps p.tables e below G0 t := by
    intro t kt
    refine K9 t ?_
    refine XS.iloadN X9.here hx rfl (hb hby d6_21) rfl ?_
    show Steps p.tables e below (T9.setTop (mkF m 22 #[.val (.ref a0), .val (.ref a1), .val (.ref b3), .val (.int (0 : Int32)), .unset, .unset, .unset, .unset, .unset, .unset] [(.int (0 : Int32)), (.ref pe)])) _
    exact kt
  have f11 := (fc_13.ext E3)
  obtain ⟨cl12, Ar12, qq12, S12, M12, H12, GG12⟩ := id f11
  have hin12 : ¬ ((0 : Int32) < 0 ∨ cl12.slots.size ≤ ((0 : Int32)).toNatClampNeg) := inb_of S12 ⟨by decide, by decide⟩
  have hat12 : cl12.slots[((0 : Int32)).toNatClampNeg]? = some (.int (0 : Int32)) := Has.at H12 hin12 rfl
  have K13 : ∀ t, Steps p.tables e below (T9.setTop (mkF m 28 #[.val (.ref a0), .val (.ref a1), .val (.ref b3), .val (.int (0 : Int32)), .val (.int (0 : Int32)), .unset, .unset, .unset, .unset, .unset] [(.int (0 : Int32)), (.ref a1)])) t → Steps p.tables e below G0 t := by
    intro t kt
    refine K10 t ?_
    refine X9.iaload hx (j := (0 : Int32)) (v := (.int (0 : Int32))) (by rw [e9]; exact (Ar12).1) (State.isArrayOf_alike hZ.alike (Ar12).2.1) (Ar12).2.2 hin12 hat12 (g := (mkF m 22 #[.val (.ref a0), .val (.ref a1), .val (.ref b3), .val (.int (0 : Int32)), .unset, .unset, .unset, .unset, .unset, .unset] [(.int (0 : Int32)), (.ref pe)])) rfl rfl (hb hby d6_22) _ ?_
    show Steps p.tables e below (T9.setTop (mkF m 23 #[.val (.ref a0), .val (.ref a1), .val (.ref b3), .val (.int (0 : Int32)), .unset, .unset, .unset, .unset, .unset, .unset] [(.int (0 : Int32))])) _
    refine XS.istore X9.here hx rfl (hb hby d6_23) rfl (l' := #[.val (.ref a0), .val (.ref a1), .val (.ref b3), .val (.int (0 : Int32)), .val (.int (0 : Int32)), .unset, .unset, .unset, .unset, .unset]) rfl ?_
    show Steps p.tables e below (T9.setTop (mkF m 25 #[.val (.ref a0), .val (.ref a1), .val (.ref b3), .val (.int (0 : Int32)), .val (.int (0 : Int32)), .unset, .unset, .unset, .unset, .unset] [])) _
    refine XS.aloadN X9.here hx rfl (hb hby d6_25) rfl rfl ?_
    show Steps p.tables e below (T9.setTop (mkF m 26 #[.val (.ref a0), .val (.ref a1), .val (.ref b3), .val (.int (0 : Int32)), .val (.int (0 : Int32)), .unset, .unset, .unset, .unset, .unset] [(.ref a1)])) _
    refine XS.iload X9.here hx rfl (hb hby d6_26) rfl ?_
    show Steps p.tables e below (T9.setTop (mkF m 28 #[.val (.ref a0), .val (.ref a1), .val (.ref b3), .val (.int (0 : Int32)), .val (.int (0 : Int32)), .unset, .unset, .unset, .unset, .unset] [(.int (0 : Int32)), (.ref a1)])) _
    exact kt
  have f14 := (V_a1.ext E3)
  obtain ⟨cl15, Ar15, qq15, S15, M15, H15, GG15⟩ := id f14
  have hin15 : ¬ ((0 : Int32) < 0 ∨ cl15.slots.size ≤ ((0 : Int32)).toNatClampNeg) := inb_of S15 ⟨by decide, by decide⟩
  have hat15 : cl15.slots[((0 : Int32)).toNatClampNeg]? = some (.double r0) := Has.at H15 hin15 rfl
  have K16 : ∀ t, Steps p.tables e below (T9.setTop (mkF m 37 #[.val (.ref a0), .val (.ref a1), .val (.ref b3), .val (.int (0 : Int32)), .val (.int (0 : Int32)), .val (.double r0), .second, .val (.int (0 : Int32)), .unset, .unset] [(.ref a0), (.int (0 : Int32))])) t → Steps p.tables e below G0 t := by
    intro t kt
    refine K13 t ?_
    refine X9.daload hx (j := (0 : Int32)) (v := (.double r0)) (by rw [e9]; exact (Ar15).1) (State.isArrayOf_alike hZ.alike (Ar15).2.1) (Ar15).2.2 hin15 hat15 (g := (mkF m 28 #[.val (.ref a0), .val (.ref a1), .val (.ref b3), .val (.int (0 : Int32)), .val (.int (0 : Int32)), .unset, .unset, .unset, .unset, .unset] [(.int (0 : Int32)), (.ref a1)])) rfl rfl (hb hby d6_28) _ ?_
    show Steps p.tables e below (T9.setTop (mkF m 29 #[.val (.ref a0), .val (.ref a1), .val (.ref b3), .val (.int (0 : Int32)), .val (.int (0 : Int32)), .unset, .unset, .unset, .unset, .unset] [(.double r0)])) _
    refine XS.dstore X9.here hx rfl (hb hby d6_29) rfl (l' := #[.val (.ref a0), .val (.ref a1), .val (.ref b3), .val (.int (0 : Int32)), .val (.int (0 : Int32)), .val (.double r0), .second, .unset, .unset, .unset]) rfl ?_
    show Steps p.tables e below (T9.setTop (mkF m 31 #[.val (.ref a0), .val (.ref a1), .val (.ref b3), .val (.int (0 : Int32)), .val (.int (0 : Int32)), .val (.double r0), .second, .unset, .unset, .unset] [])) _
    refine XS.iconst X9.here hx rfl (hb hby d6_31) ?_
    show Steps p.tables e below (T9.setTop (mkF m 32 #[.val (.ref a0), .val (.ref a1), .val (.ref b3), .val (.int (0 : Int32)), .val (.int (0 : Int32)), .val (.double r0), .second, .unset, .unset, .unset] [(.int (0 : Int32))])) _
    refine XS.istore X9.here hx rfl (hb hby d6_32) rfl (l' := #[.val (.ref a0), .val (.ref a1), .val (.ref b3), .val (.int (0 : Int32)), .val (.int (0 : Int32)), .val (.double r0), .second, .val (.int (0 : Int32)), .unset, .unset]) rfl ?_
    show Steps p.tables e below (T9.setTop (mkF m 34 #[.val (.ref a0), .val (.ref a1), .val (.ref b3), .val (.int (0 : Int32)), .val (.int (0 : Int32)), .val (.double r0), .second, .val (.int (0 : Int32)), .unset, .unset] [])) _
    refine XS.iload X9.here hx rfl (hb hby d6_34) rfl ?_
    show Steps p.tables e below (T9.setTop (mkF m 36 #[.val (.ref a0), .val (.ref a1), .val (.ref b3), .val (.int (0 : Int32)), .val (.int (0 : Int32)), .val (.double r0), .second, .val (.int (0 : Int32)), .unset, .unset] [(.int (0 : Int32))])) _
    refine XS.aloadN X9.here hx rfl (hb hby d6_36) rfl rfl ?_
    show Steps p.tables e below (T9.setTop (mkF m 37 #[.val (.ref a0), .val (.ref a1), .val (.ref b3), .val (.int (0 : Int32)), .val (.int (0 : Int32)), .val (.double r0), .second, .val (.int (0 : Int32)), .unset, .unset] [(.ref a0), (.int (0 : Int32))])) _
    exact kt
  have f17 := (fc_6.ext E3)
  obtain ⟨T18, X18, e18, st18⟩ := getF X9 hx hZ hown (host := "") (Or.inl (hw _ (List.mem_of_getElem? (i := 23) rfl))) Via.refl e9 f17 (g := (mkF m 37 #[.val (.ref a0), .val (.ref a1), .val (.ref b3), .val (.int (0 : Int32)), .val (.int (0 : Int32)), .val (.double r0), .second, .val (.int (0 : Int32)), .unset, .unset] [(.ref a0), (.int (0 : Int32))])) rfl rfl (hb hby d6_37)
  have K18 : ∀ t, Steps p.tables e below (T18.setTop (mkF m 40 #[.val (.ref a0), .val (.ref a1), .val (.ref b3), .val (.int (0 : Int32)), .val (.int (0 : Int32)), .val (.double r0), .second, .val (.int (0 : Int32)), .unset, .unset] [(.ref ln), (.int (0 : Int32))])) t → Steps p.tables e below G0 t := fun t kt => K16 t (st18 _ kt)
  have K19 : ∀ t, Steps p.tables e below (T18.setTop (mkF m 42 #[.val (.ref a0), .val (.ref a1), .val (.ref b3), .val (.int (0 : Int32)), .val (.int (0 : Int32)), .val (.double r0), .second, .val (.int (0 : Int32)), .unset, .unset] [(.int (0 : Int32)), (.ref ln), (.int (0 : Int32))])) t → Steps p.tables e below G0 t := by
    intro t kt
    refine K18 t ?_
    refine XS.iload X18.here hx rfl (hb hby d6_40) rfl ?_
    show Steps p.tables e below (T18.setTop (mkF m 42 #[.val (.ref a0), .val (.ref a1), .val (.ref b3), .val (.int (0 : Int32)), .val (.int (0 : Int32)), .val (.double r0), .second, .val (.int (0 : Int32)), .unset, .unset] [(.int (0 : Int32)), (.ref ln), (.int (0 : Int32))])) _
    exact kt
  have f20 := (fc_12.ext E3)
  obtain ⟨cl21, Ar21, qq21, S21, M21, H21, GG21⟩ := id f20
  have hin21 : ¬ ((0 : Int32) < 0 ∨ cl21.slots.size ≤ ((0 : Int32)).toNatClampNeg) := inb_of S21 ⟨by decide, by decide⟩
  have hat21 : cl21.slots[((0 : Int32)).toNatClampNeg]? = some (.int (0 : Int32)) := Has.at H21 hin21 rfl
  have K22 : ∀ t, Steps p.tables e below (T18.setTop (mkF m 84 #[.val (.ref a0), .val (.ref a1), .val (.ref b3), .val (.int (0 : Int32)), .val (.int (0 : Int32)), .val (.double r0), .second, .val (.int (0 : Int32)), .unset, .unset] [(.double r0), (.int (0 : Int32)), (.ref b3)])) t → Steps p.tables e below G0 t := by
    intro t kt
    refine K19 t ?_
    refine X18.iaload hx (j := (0 : Int32)) (v := (.int (0 : Int32))) (by rw [e18]; exact (Ar21).1) (State.isArrayOf_alike hZ.alike (Ar21).2.1) (Ar21).2.2 hin21 hat21 (g := (mkF m 42 #[.val (.ref a0), .val (.ref a1), .val (.ref b3), .val (.int (0 : Int32)), .val (.int (0 : Int32)), .val (.double r0), .second, .val (.int (0 : Int32)), .unset, .unset] [(.int (0 : Int32)), (.ref ln), (.int (0 : Int32))])) rfl rfl (hb hby d6_42) _ ?_
    show Steps p.tables e below (T18.setTop (mkF m 43 #[.val (.ref a0), .val (.ref a1), .val (.ref b3), .val (.int (0 : Int32)), .val (.int (0 : Int32)), .val (.double r0), .second, .val (.int (0 : Int32)), .unset, .unset] [(.int (0 : Int32)), (.int (0 : Int32))])) _
    refine XS.icmpYes X18.here hx rfl (pc0 := 43) (pc' := 80) rfl (hb hby d6_43) rfl (flt (by decide)).2.1 (by decide) (by decide) ?_
    show Steps p.tables e below (T18.setTop (mkF m 80 #[.val (.ref a0), .val (.ref a1), .val (.ref b3), .val (.int (0 : Int32)), .val (.int (0 : Int32)), .val (.double r0), .second, .val (.int (0 : Int32)), .unset, .unset] [])) _
    refine XS.aloadN X18.here hx rfl (hb hby d6_80) rfl rfl ?_
    show Steps p.tables e below (T18.setTop (mkF m 81 #[.val (.ref a0), .val (.ref a1), .val (.ref b3), .val (.int (0 : Int32)), .val (.int (0 : Int32)), .val (.double r0), .second, .val (.int (0 : Int32)), .unset, .unset] [(.ref b3)])) _
    refine XS.iloadN X18.here hx rfl (hb hby d6_81) rfl ?_
    show Steps p.tables e below (T18.setTop (mkF m 82 #[.val (.ref a0), .val (.ref a1), .val (.ref b3), .val (.int (0 : Int32)), .val (.int (0 : Int32)), .val (.double r0), .second, .val (.int (0 : Int32)), .unset, .unset] [(.int (0 : Int32)), (.ref b3)])) _
    refine XS.dload X18.here hx rfl (hb hby d6_82) rfl ?_
    show Steps p.tables e below (T18.setTop (mkF m 84 #[.val (.ref a0), .val (.ref a1), .val (.ref b3), .val (.int (0 : Int32)), .val (.int (0 : Int32)), .val (.double r0), .second, .val (.int (0 : Int32)), .unset, .unset] [(.double r0), (.int (0 : Int32)), (.ref b3)])) _
    exact kt
  obtain ⟨cl23, Ar23, qq23, S23, M23, H23, GG23⟩ := id VL3
  have hin23 : ¬ ((0 : Int32) < 0 ∨ cl23.slots.size ≤ ((0 : Int32)).toNatClampNeg) := inb_of S23 ⟨by decide, by decide⟩
  obtain ⟨T24, h24, X24, e24, W24, st24⟩ := stD X18 hx hZ e18 Ar23 (j := (0 : Int32)) hin23 (g := (mkF m 84 #[.val (.ref a0), .val (.ref a1), .val (.ref b3), .val (.int (0 : Int32)), .val (.int (0 : Int32)), .val (.double r0), .second, .val (.int (0 : Int32)), .unset, .unset] [(.double r0), (.int (0 : Int32)), (.ref b3)])) rfl rfl (hb hby d6_84)
  have K24 : ∀ t, Steps p.tables e below (T24.setTop (mkF m 85 #[.val (.ref a0), .val (.ref a1), .val (.ref b3), .val (.int (0 : Int32)), .val (.int (0 : Int32)), .val (.double r0), .second, .val (.int (0 : Int32)), .unset, .unset] [])) t → Steps p.tables e below G0 t := fun t kt => K22 t (st24 _ kt)
  have Z24 : n0 ≤ h24.size := Nat.le_trans Z3 (Keep.of_wr W24).1
  have VL24 : Arv Z h24 b3 k3 .double (2 : Int32) [(.double r0), (.double 0)] (.double 0) := Arv.set Ar23 qq23 S23 M23 H23 GG23 rfl W24 0 rfl (Nat.le_of_ble_eq_true rfl)
  have N24 := Fr.snoc X24 N0 gn3
  have K25 : ∀ t, Steps p.tables e below (T24.setTop (mkF m 88 #[.val (.ref a0), .val (.ref a1), .val (.ref b3), .val (.int ((0 : Int32) + (1 : Int32))), .val (.int (0 : Int32)), .val (.double r0), .second, .val (.int (0 : Int32)), .unset, .unset] [])) t → Steps p.tables e below G0 t := by
    intro t kt
    refine K24 t ?_
    refine XS.iinc X24.here hx rfl (hb hby d6_85) rfl (l' := #[.val (.ref a0), .val (.ref a1), .val (.ref b3), .val (.int ((0 : Int32) + (1 : Int32))), .val (.int (0 : Int32)), .val (.double r0), .second, .val (.int (0 : Int32)), .unset, .unset]) rfl ?_
    show Steps p.tables e below (T24.setTop (mkF m 88 #[.val (.ref a0), .val (.ref a1), .val (.ref b3), .val (.int ((0 : Int32) + (1 : Int32))), .val (.int (0 : Int32)), .val (.double r0), .second, .val (.int (0 : Int32)), .unset, .unset] [])) _
    exact kt
  rw [show ((0 : Int32) + (1 : Int32)) = (1 : Int32) from by decide] at K25
  have K26 : ∀ t, Steps p.tables e below (T24.setTop (mkF m 11 #[.val (.ref a0), .val (.ref a1), .val (.ref b3), .val (.int (1 : Int32)), .val (.int (0 : Int32)), .val (.double r0), .second, .val (.int (0 : Int32)), .unset, .unset] [(.ref a0), (.int (1 : Int32))])) t → Steps p.tables e below G0 t := by
    intro t kt
    refine K25 t ?_
    refine XS.goto X24.here hx rfl (pc0 := 88) (pc' := 9) rfl (hb hby d6_88) (by decide) (by decide) ?_
    show Steps p.tables e below (T24.setTop (mkF m 9 #[.val (.ref a0), .val (.ref a1), .val (.ref b3), .val (.int (1 : Int32)), .val (.int (0 : Int32)), .val (.double r0), .second, .val (.int (0 : Int32)), .unset, .unset] [])) _
    refine XS.iloadN X24.here hx rfl (hb hby d6_9) rfl ?_
    show Steps p.tables e below (T24.setTop (mkF m 10 #[.val (.ref a0), .val (.ref a1), .val (.ref b3), .val (.int (1 : Int32)), .val (.int (0 : Int32)), .val (.double r0), .second, .val (.int (0 : Int32)), .unset, .unset] [(.int (1 : Int32))])) _
    refine XS.aloadN X24.here hx rfl (hb hby d6_10) rfl rfl ?_
    show Steps p.tables e below (T24.setTop (mkF m 11 #[.val (.ref a0), .val (.ref a1), .val (.ref b3), .val (.int (1 : Int32)), .val (.int (0 : Int32)), .val (.double r0), .second, .val (.int (0 : Int32)), .unset, .unset] [(.ref a0), (.int (1 : Int32))])) _
    exact kt
  have f27 := (f5.other W24 (Or.inl ne_a0_b3))
  obtain ⟨T28, X28, e28, st28⟩ := getF X24 hx hZ hown (host := "") (Or.inl (hw _ (List.mem_of_getElem? (i := 41) rfl))) Via.refl e24 f27 (g := (mkF m 11 #[.val (.ref a0), .val (.ref a1), .val (.ref b3), .val (.int (1 : Int32)), .val (.int (0 : Int32)), .val (.double r0), .second, .val (.int (0 : Int32)), .unset, .unset] [(.ref a0), (.int (1 : Int32))])) rfl rfl (hb hby d6_11)
  have K28 : ∀ t, Steps p.tables e below (T28.setTop (mkF m 14 #[.val (.ref a0), .val (.ref a1), .val (.ref b3), .val (.int (1 : Int32)), .val (.int (0 : Int32)), .val (.double r0), .second, .val (.int (0 : Int32)), .unset, .unset] [(.int (2 : Int32)), (.int (1 : Int32))])) t → Steps p.tables e below G0 t := fun t kt => K26 t (st28 _ kt)
  have K29 : ∀ t, Steps p.tables e below (T28.setTop (mkF m 18 #[.val (.ref a0), .val (.ref a1), .val (.ref b3), .val (.int (1 : Int32)), .val (.int (0 : Int32)), .val (.double r0), .second, .val (.int (0 : Int32)), .unset, .unset] [(.ref a0)])) t → Steps p.tables e below G0 t := by
    intro t kt
    refine K28 t ?_
    refine XS.icmpNo X28.here hx rfl (hb hby d6_14) rfl (tlt (by decide)).2.1 ?_
    show Steps p.tables e below (T28.setTop (mkF m 17 #[.val (.ref a0), .val (.ref a1), .val (.ref b3), .val (.int (1 : Int32)), .val (.int (0 : Int32)), .val (.double r0), .second, .val (.int (0 : Int32)), .unset, .unset] [])) _
    refine XS.aloadN X28.here hx rfl (hb hby d6_17) rfl rfl ?_
    show Steps p.tables e below (T28.setTop (mkF m 18 #[.val (.ref a0), .val (.ref a1), .val (.ref b3), .val (.int (1 : Int32)), .val (.int (0 : Int32)), .val (.double r0), .second, .val (.int (0 : Int32)), .unset, .unset] [(.ref a0)])) _
    exact kt
  have f30 := (f8.other W24 (Or.inl ne_a0_b3))
  obtain ⟨T31, X31, e31, st31⟩ := getF X28 hx hZ hown (host := "") (Or.inl (hw _ (List.mem_of_getElem? (i := 29) rfl))) Via.refl e28 f30 (g := (mkF m 18 #[.val (.ref a0), .val (.ref a1), .val (.ref b3), .val (.int (1 : Int32)), .val (.int (0 : Int32)), .val (.double r0), .second, .val (.int (0 : Int32)), .unset, .unset] [(.ref a0)])) rfl rfl (hb hby d6_18)
  have K31 : ∀ t, Steps p.tables e below (T31.setTop (mkF m 21 #[.val (.ref a0), .val (.ref a1), .val (.ref b3), .val (.int (1 : Int32)), .val (.int (0 : Int32)), .val (.double r0), .second, .val (.int (0 : Int32)), .unset, .unset] [(.ref pe)])) t → Steps p.tables e below G0 t := fun t kt => K29 t (st31 _ kt)
  have K32 : ∀ t, Steps p.tables e below (T31.setTop (mkF m 22 #[.val (.ref a0), .val (.ref a1), .val (.ref b3), .val (.int (1 : Int32)), .val (.int (0 : Int32)), .val (.double r0), .second, .val (.int (0 : Int32)), .unset, .unset] [(.int (1 : Int32)), (.ref pe)])) t → Steps p.tables e below G0 t := by
    intro t kt
    refine K31 t ?_
    refine XS.iloadN X31.here hx rfl (hb hby d6_21) rfl ?_
    show Steps p.tables e below (T31.setTop (mkF m 22 #[.val (.ref a0), .val (.ref a1), .val (.ref b3), .val (.int (1 : Int32)), .val (.int (0 : Int32)), .val (.double r0), .second, .val (.int (0 : Int32)), .unset, .unset] [(.int (1 : Int32)), (.ref pe)])) _
    exact kt
  have f33 := (f11.other W24 ne_pe_b3)
  obtain ⟨cl34, Ar34, qq34, S34, M34, H34, GG34⟩ := id f33
  have hin34 : ¬ ((1 : Int32) < 0 ∨ cl34.slots.size ≤ ((1 : Int32)).toNatClampNeg) := inb_of S34 ⟨by decide, by decide⟩
  have hat34 : cl34.slots[((1 : Int32)).toNatClampNeg]? = some (.int (1 : Int32)) := Has.at H34 hin34 rfl
  have K35 : ∀ t, Steps p.tables e below (T31.setTop (mkF m 28 #[.val (.ref a0), .val (.ref a1), .val (.ref b3), .val (.int (1 : Int32)), .val (.int (1 : Int32)), .val (.double r0), .second, .val (.int (0 : Int32)), .unset, .unset] [(.int (1 : Int32)), (.ref a1)])) t → Steps p.tables e below G0 t := by
    intro t kt
    refine K32 t ?_
    refine X31.iaload hx (j := (1 : Int32)) (v := (.int (1 : Int32))) (by rw [e31]; exact (Ar34).1) (State.isArrayOf_alike hZ.alike (Ar34).2.1) (Ar34).2.2 hin34 hat34 (g := (mkF m 22 #[.val (.ref a0), .val (.ref a1), .val (.ref b3), .val (.int (1 : Int32)), .val (.int (0 : Int32)), .val (.double r0), .second, .val (.int (0 : Int32)), .unset, .unset] [(.int (1 : Int32)), (.ref pe)])) rfl rfl (hb hby d6_22) _ ?_
    show Steps p.tables e below (T31.setTop (mkF m 23 #[.val (.ref a0), .val (.ref a1), .val (.ref b3), .val (.int (1 : Int32)), .val (.int (0 : Int32)), .val (.double r0), .second, .val (.int (0 : Int32)), .unset, .unset] [(.int (1 : Int32))])) _
    refine XS.istore X31.here hx rfl (hb hby d6_23) rfl (l' := #[.val (.ref a0), .val (.ref a1), .val (.ref b3), .val (.int (1 : Int32)), .val (.int (1 : Int32)), .val (.double r0), .second, .val (.int (0 : Int32)), .unset, .unset]) rfl ?_
    show Steps p.tables e below (T31.setTop (mkF m 25 #[.val (.ref a0), .val (.ref a1), .val (.ref b3), .val (.int (1 : Int32)), .val (.int (1 : Int32)), .val (.double r0), .second, .val (.int (0 : Int32)), .unset, .unset] [])) _
    refine XS.aloadN X31.here hx rfl (hb hby d6_25) rfl rfl ?_
    show Steps p.tables e below (T31.setTop (mkF m 26 #[.val (.ref a0), .val (.ref a1), .val (.ref b3), .val (.int (1 : Int32)), .val (.int (1 : Int32)), .val (.double r0), .second, .val (.int (0 : Int32)), .unset, .unset] [(.ref a1)])) _
    refine XS.iload X31.here hx rfl (hb hby d6_26) rfl ?_
    show Steps p.tables e below (T31.setTop (mkF m 28 #[.val (.ref a0), .val (.ref a1), .val (.ref b3), .val (.int (1 : Int32)), .val (.int (1 : Int32)), .val (.double r0), .second, .val (.int (0 : Int32)), .unset, .unset] [(.int (1 : Int32)), (.ref a1)])) _
    exact kt
  have f36 := (f14.other W24 ne_a1_b3)
  obtain ⟨cl37, Ar37, qq37, S37, M37, H37, GG37⟩ := id f36
  have hin37 : ¬ ((1 : Int32) < 0 ∨ cl37.slots.size ≤ ((1 : Int32)).toNatClampNeg) := inb_of S37 ⟨by decide, by decide⟩
  have hat37 : cl37.slots[((1 : Int32)).toNatClampNeg]? = some (.double r1) := Has.at H37 hin37 rfl
  have K38 : ∀ t, Steps p.tables e below (T31.setTop (mkF m 37 #[.val (.ref a0), .val (.ref a1), .val (.ref b3), .val (.int (1 : Int32)), .val (.int (1 : Int32)), .val (.double r1), .second, .val (.int (0 : Int32)), .unset, .unset] [(.ref a0), (.int (0 : Int32))])) t → Steps p.tables e below G0 t := by
    intro t kt
    refine K35 t ?_
    refine X31.daload hx (j := (1 : Int32)) (v := (.double r1)) (by rw [e31]; exact (Ar37).1) (State.isArrayOf_alike hZ.alike (Ar37).2.1) (Ar37).2.2 hin37 hat37 (g := (mkF m 28 #[.val (.ref a0), .val (.ref a1), .val (.ref b3), .val (.int (1 : Int32)), .val (.int (1 : Int32)), .val (.double r0), .second, .val (.int (0 : Int32)), .unset, .unset] [(.int (1 : Int32)), (.ref a1)])) rfl rfl (hb hby d6_28) _ ?_
    show Steps p.tables e below (T31.setTop (mkF m 29 #[.val (.ref a0), .val (.ref a1), .val (.ref b3), .val (.int (1 : Int32)), .val (.int (1 : Int32)), .val (.double r0), .second, .val (.int (0 : Int32)), .unset, .unset] [(.double r1)])) _
    refine XS.dstore X31.here hx rfl (hb hby d6_29) rfl (l' := #[.val (.ref a0), .val (.ref a1), .val (.ref b3), .val (.int (1 : Int32)), .val (.int (1 : Int32)), .val (.double r1), .second, .val (.int (0 : Int32)), .unset, .unset]) rfl ?_
    show Steps p.tables e below (T31.setTop (mkF m 31 #[.val (.ref a0), .val (.ref a1), .val (.ref b3), .val (.int (1 : Int32)), .val (.int (1 : Int32)), .val (.double r1), .second, .val (.int (0 : Int32)), .unset, .unset] [])) _
    refine XS.iconst X31.here hx rfl (hb hby d6_31) ?_
    show Steps p.tables e below (T31.setTop (mkF m 32 #[.val (.ref a0), .val (.ref a1), .val (.ref b3), .val (.int (1 : Int32)), .val (.int (1 : Int32)), .val (.double r1), .second, .val (.int (0 : Int32)), .unset, .unset] [(.int (0 : Int32))])) _
    refine XS.istore X31.here hx rfl (hb hby d6_32) rfl (l' := #[.val (.ref a0), .val (.ref a1), .val (.ref b3), .val (.int (1 : Int32)), .val (.int (1 : Int32)), .val (.double r1), .second, .val (.int (0 : Int32)), .unset, .unset]) rfl ?_
    show Steps p.tables e below (T31.setTop (mkF m 34 #[.val (.ref a0), .val (.ref a1), .val (.ref b3), .val (.int (1 : Int32)), .val (.int (1 : Int32)), .val (.double r1), .second, .val (.int (0 : Int32)), .unset, .unset] [])) _
    refine XS.iload X31.here hx rfl (hb hby d6_34) rfl ?_
    show Steps p.tables e below (T31.setTop (mkF m 36 #[.val (.ref a0), .val (.ref a1), .val (.ref b3), .val (.int (1 : Int32)), .val (.int (1 : Int32)), .val (.double r1), .second, .val (.int (0 : Int32)), .unset, .unset] [(.int (0 : Int32))])) _
    refine XS.aloadN X31.here hx rfl (hb hby d6_36) rfl rfl ?_
    show Steps p.tables e below (T31.setTop (mkF m 37 #[.val (.ref a0), .val (.ref a1), .val (.ref b3), .val (.int (1 : Int32)), .val (.int (1 : Int32)), .val (.double r1), .second, .val (.int (0 : Int32)), .unset, .unset] [(.ref a0), (.int (0 : Int32))])) _
    exact kt
  have f39 := (f17.other W24 (Or.inl ne_a0_b3))
  obtain ⟨T40, X40, e40, st40⟩ := getF X31 hx hZ hown (host := "") (Or.inl (hw _ (List.mem_of_getElem? (i := 23) rfl))) Via.refl e31 f39 (g := (mkF m 37 #[.val (.ref a0), .val (.ref a1), .val (.ref b3), .val (.int (1 : Int32)), .val (.int (1 : Int32)), .val (.double r1), .second, .val (.int (0 : Int32)), .unset, .unset] [(.ref a0), (.int (0 : Int32))])) rfl rfl (hb hby d6_37)
  have K40 : ∀ t, Steps p.tables e below (T40.setTop (mkF m 40 #[.val (.ref a0), .val (.ref a1), .val (.ref b3), .val (.int (1 : Int32)), .val (.int (1 : Int32)), .val (.double r1), .second, .val (.int (0 : Int32)), .unset, .unset] [(.ref ln), (.int (0 : Int32))])) t → Steps p.tables e below G0 t := fun t kt => K38 t (st40 _ kt)
  have K41 : ∀ t, Steps p.tables e below (T40.setTop (mkF m 42 #[.val (.ref a0), .val (.ref a1), .val (.ref b3), .val (.int (1 : Int32)), .val (.int (1 : Int32)), .val (.double r1), .second, .val (.int (0 : Int32)), .unset, .unset] [(.int (1 : Int32)), (.ref ln), (.int (0 : Int32))])) t → Steps p.tables e below G0 t := by
    intro t kt
    refine K40 t ?_
    refine XS.iload X40.here hx rfl (hb hby d6_40) rfl ?_
    show Steps p.tables e below (T40.setTop (mkF m 42 #[.val (.ref a0), .val (.ref a1), .val (.ref b3), .val (.int (1 : Int32)), .val (.int (1 : Int32)), .val (.double r1), .second, .val (.int (0 : Int32)), .unset, .unset] [(.int (1 : Int32)), (.ref ln), (.int (0 : Int32))])) _
    exact kt
  have f42 := (f20.other W24 ne_ln_b3)
  obtain ⟨cl43, Ar43, qq43, S43, M43, H43, GG43⟩ := id f42
  have hin43 : ¬ ((1 : Int32) < 0 ∨ cl43.slots.size ≤ ((1 : Int32)).toNatClampNeg) := inb_of S43 ⟨by decide, by decide⟩
  have hat43 : cl43.slots[((1 : Int32)).toNatClampNeg]? = some (.int (0 : Int32)) := Has.at H43 hin43 rfl
  have K44 : ∀ t, Steps p.tables e below (T40.setTop (mkF m 84 #[.val (.ref a0), .val (.ref a1), .val (.ref b3), .val (.int (1 : Int32)), .val (.int (1 : Int32)), .val (.double r1), .second, .val (.int (0 : Int32)), .unset, .unset] [(.double r1), (.int (1 : Int32)), (.ref b3)])) t → Steps p.tables e below G0 t := by
    intro t kt
    refine K41 t ?_
    refine X40.iaload hx (j := (1 : Int32)) (v := (.int (0 : Int32))) (by rw [e40]; exact (Ar43).1) (State.isArrayOf_alike hZ.alike (Ar43).2.1) (Ar43).2.2 hin43 hat43 (g := (mkF m 42 #[.val (.ref a0), .val (.ref a1), .val (.ref b3), .val (.int (1 : Int32)), .val (.int (1 : Int32)), .val (.double r1), .second, .val (.int (0 : Int32)), .unset, .unset] [(.int (1 : Int32)), (.ref ln), (.int (0 : Int32))])) rfl rfl (hb hby d6_42) _ ?_
    show Steps p.tables e below (T40.setTop (mkF m 43 #[.val (.ref a0), .val (.ref a1), .val (.ref b3), .val (.int (1 : Int32)), .val (.int (1 : Int32)), .val (.double r1), .second, .val (.int (0 : Int32)), .unset, .unset] [(.int (0 : Int32)), (.int (0 : Int32))])) _
    refine XS.icmpYes X40.here hx rfl (pc0 := 43) (pc' := 80) rfl (hb hby d6_43) rfl (flt (by decide)).2.1 (by decide) (by decide) ?_
    show Steps p.tables e below (T40.setTop (mkF m 80 #[.val (.ref a0), .val (.ref a1), .val (.ref b3), .val (.int (1 : Int32)), .val (.int (1 : Int32)), .val (.double r1), .second, .val (.int (0 : Int32)), .unset, .unset] [])) _
    refine XS.aloadN X40.here hx rfl (hb hby d6_80) rfl rfl ?_
    show Steps p.tables e below (T40.setTop (mkF m 81 #[.val (.ref a0), .val (.ref a1), .val (.ref b3), .val (.int (1 : Int32)), .val (.int (1 : Int32)), .val (.double r1), .second, .val (.int (0 : Int32)), .unset, .unset] [(.ref b3)])) _
    refine XS.iloadN X40.here hx rfl (hb hby d6_81) rfl ?_
    show Steps p.tables e below (T40.setTop (mkF m 82 #[.val (.ref a0), .val (.ref a1), .val (.ref b3), .val (.int (1 : Int32)), .val (.int (1 : Int32)), .val (.double r1), .second, .val (.int (0 : Int32)), .unset, .unset] [(.int (1 : Int32)), (.ref b3)])) _
    refine XS.dload X40.here hx rfl (hb hby d6_82) rfl ?_
    show Steps p.tables e below (T40.setTop (mkF m 84 #[.val (.ref a0), .val (.ref a1), .val (.ref b3), .val (.int (1 : Int32)), .val (.int (1 : Int32)), .val (.double r1), .second, .val (.int (0 : Int32)), .unset, .unset] [(.double r1), (.int (1 : Int32)), (.ref b3)])) _
    exact kt
  obtain ⟨cl45, Ar45, qq45, S45, M45, H45, GG45⟩ := id VL24
  have hin45 : ¬ ((1 : Int32) < 0 ∨ cl45.slots.size ≤ ((1 : Int32)).toNatClampNeg) := inb_of S45 ⟨by decide, by decide⟩
  obtain ⟨T46, h46, X46, e46, W46, st46⟩ := stD X40 hx hZ e40 Ar45 (j := (1 : Int32)) hin45 (g := (mkF m 84 #[.val (.ref a0), .val (.ref a1), .val (.ref b3), .val (.int (1 : Int32)), .val (.int (1 : Int32)), .val (.double r1), .second, .val (.int (0 : Int32)), .unset, .unset] [(.double r1), (.int (1 : Int32)), (.ref b3)])) rfl rfl (hb hby d6_84)
  have K46 : ∀ t, Steps p.tables e below (T46.setTop (mkF m 85 #[.val (.ref a0), .val (.ref a1), .val (.ref b3), .val (.int (1 : Int32)), .val (.int (1 : Int32)), .val (.double r1), .second, .val (.int (0 : Int32)), .unset, .unset] [])) t → Steps p.tables e below G0 t := fun t kt => K44 t (st46 _ kt)
  have Z46 : n0 ≤ h46.size := Nat.le_trans Z24 (Keep.of_wr W46).1
  have VL46 : Arv Z h46 b3 k3 .double (2 : Int32) [(.double r0), (.double r1)] (.double 0) := Arv.set Ar45 qq45 S45 M45 H45 GG45 rfl W46 1 rfl (Nat.le_of_ble_eq_true rfl)
  have N46 := Fr.snoc X46 N24 gn3
  have K47 : ∀ t, Steps p.tables e below (T46.setTop (mkF m 88 #[.val (.ref a0), .val (.ref a1), .val (.ref b3), .val (.int ((1 : Int32) + (1 : Int32))), .val (.int (1 : Int32)), .val (.double r1), .second, .val (.int (0 : Int32)), .unset, .unset] [])) t → Steps p.tables e below G0 t := by
    intro t kt
    refine K46 t ?_
    refine XS.iinc X46.here hx rfl (hb hby d6_85) rfl (l' := #[.val (.ref a0), .val (.ref a1), .val (.ref b3), .val (.int ((1 : Int32) + (1 : Int32))), .val (.int (1 : Int32)), .val (.double r1), .second, .val (.int (0 : Int32)), .unset, .unset]) rfl ?_
    show Steps p.tables e below (T46.setTop (mkF m 88 #[.val (.ref a0), .val (.ref a1), .val (.ref b3), .val (.int ((1 : Int32) + (1 : Int32))), .val (.int (1 : Int32)), .val (.double r1), .second, .val (.int (0 : Int32)), .unset, .unset] [])) _
    exact kt
  rw [show ((1 : Int32) + (1 : Int32)) = (2 : Int32) from by decide] at K47
  have K48 : ∀ t, Steps p.tables e below (T46.setTop (mkF m 11 #[.val (.ref a0), .val (.ref a1), .val (.ref b3), .val (.int (2 : Int32)), .val (.int (1 : Int32)), .val (.double r1), .second, .val (.int (0 : Int32)), .unset, .unset] [(.ref a0), (.int (2 : Int32))])) t → Steps p.tables e below G0 t := by
    intro t kt
    refine K47 t ?_
    refine XS.goto X46.here hx rfl (pc0 := 88) (pc' := 9) rfl (hb hby d6_88) (by decide) (by decide) ?_
    show Steps p.tables e below (T46.setTop (mkF m 9 #[.val (.ref a0), .val (.ref a1), .val (.ref b3), .val (.int (2 : Int32)), .val (.int (1 : Int32)), .val (.double r1), .second, .val (.int (0 : Int32)), .unset, .unset] [])) _
    refine XS.iloadN X46.here hx rfl (hb hby d6_9) rfl ?_
    show Steps p.tables e below (T46.setTop (mkF m 10 #[.val (.ref a0), .val (.ref a1), .val (.ref b3), .val (.int (2 : Int32)), .val (.int (1 : Int32)), .val (.double r1), .second, .val (.int (0 : Int32)), .unset, .unset] [(.int (2 : Int32))])) _
    refine XS.aloadN X46.here hx rfl (hb hby d6_10) rfl rfl ?_
    show Steps p.tables e below (T46.setTop (mkF m 11 #[.val (.ref a0), .val (.ref a1), .val (.ref b3), .val (.int (2 : Int32)), .val (.int (1 : Int32)), .val (.double r1), .second, .val (.int (0 : Int32)), .unset, .unset] [(.ref a0), (.int (2 : Int32))])) _
    exact kt
  have f49 := (f27.other W46 (Or.inl ne_a0_b3))
  obtain ⟨T50, X50, e50, st50⟩ := getF X46 hx hZ hown (host := "") (Or.inl (hw _ (List.mem_of_getElem? (i := 41) rfl))) Via.refl e46 f49 (g := (mkF m 11 #[.val (.ref a0), .val (.ref a1), .val (.ref b3), .val (.int (2 : Int32)), .val (.int (1 : Int32)), .val (.double r1), .second, .val (.int (0 : Int32)), .unset, .unset] [(.ref a0), (.int (2 : Int32))])) rfl rfl (hb hby d6_11)
  have K50 : ∀ t, Steps p.tables e below (T50.setTop (mkF m 14 #[.val (.ref a0), .val (.ref a1), .val (.ref b3), .val (.int (2 : Int32)), .val (.int (1 : Int32)), .val (.double r1), .second, .val (.int (0 : Int32)), .unset, .unset] [(.int (2 : Int32)), (.int (2 : Int32))])) t → Steps p.tables e below G0 t := fun t kt => K48 t (st50 _ kt)
  have K51 : ∀ t, Steps p.tables e below (T50.setTop (mkF m 92 #[.val (.ref a0), .val (.ref a1), .val (.ref b3), .val (.int (2 : Int32)), .val (.int (1 : Int32)), .val (.double r1), .second, .val (.int (0 : Int32)), .unset, .unset] [(.ref a0)])) t → Steps p.tables e below G0 t := by
    intro t kt
    refine K50 t ?_
    refine XS.icmpYes X50.here hx rfl (pc0 := 14) (pc' := 91) rfl (hb hby d6_14) rfl (flt (by decide)).2.1 (by decide) (by decide) ?_
    show Steps p.tables e below (T50.setTop (mkF m 91 #[.val (.ref a0), .val (.ref a1), .val (.ref b3), .val (.int (2 : Int32)), .val (.int (1 : Int32)), .val (.double r1), .second, .val (.int (0 : Int32)), .unset, .unset] [])) _
    refine XS.aloadN X50.here hx rfl (hb hby d6_91) rfl rfl ?_
    show Steps p.tables e below (T50.setTop (mkF m 92 #[.val (.ref a0), .val (.ref a1), .val (.ref b3), .val (.int (2 : Int32)), .val (.int (1 : Int32)), .val (.double r1), .second, .val (.int (0 : Int32)), .unset, .unset] [(.ref a0)])) _
    exact kt
  have f52 := (((fc_1.ext E3).other W24 (Or.inl ne_a0_b3)).other W46 (Or.inl ne_a0_b3))
  obtain ⟨T53, X53, e53, st53⟩ := getF X50 hx hZ hown (host := "") (Or.inl (hw _ (List.mem_of_getElem? (i := 9) rfl))) Via.refl e50 f52 (g := (mkF m 92 #[.val (.ref a0), .val (.ref a1), .val (.ref b3), .val (.int (2 : Int32)), .val (.int (1 : Int32)), .val (.double r1), .second, .val (.int (0 : Int32)), .unset, .unset] [(.ref a0)])) rfl rfl (hb hby d6_92)
  have K53 : ∀ t, Steps p.tables e below (T53.setTop (mkF m 95 #[.val (.ref a0), .val (.ref a1), .val (.ref b3), .val (.int (2 : Int32)), .val (.int (1 : Int32)), .val (.double r1), .second, .val (.int (0 : Int32)), .unset, .unset] [(.int (2 : Int32))])) t → Steps p.tables e below G0 t := fun t kt => K51 t (st53 _ kt)
  have f54 := (((fc_0.ext E3).wr W24).wr W46)
  have f55 := (((fc_10.ext E3).other W24 ne_rb_b3).other W46 ne_rb_b3)
  have f56 := (((fc_11.ext E3).other W24 ne_ml_b3).other W46 ne_ml_b3)
  have f57 := (f42.other W46 ne_ln_b3)
  have f58 := (f33.other W46 ne_pe_b3)
  have f59 := (((fc_14.ext E3).other W24 ne_pu_b3).other W46 ne_pu_b3)
  have f60 := (((fc_15.ext E3).other W24 ne_pc_b3).other W46 ne_pc_b3)
  have f61 := (f36.other W46 ne_a1_b3)
  have f62 := (((V_u0.ext E3).other W24 ne_u0_b3).other W46 ne_u0_b3)
  have f63 := (((V_u1.ext E3).other W24 ne_u1_b3).other W46 ne_u1_b3)
  have f64 := (((V_k0.ext E3).other W24 ne_k0_b3).other W46 ne_k0_b3)
  have f65 := (((V_k1.ext E3).other W24 ne_k1_b3).other W46 ne_k1_b3)
  obtain ⟨T66, h66, k66, X66, e66, E66, A66, EA66, st66⟩ := newPE X53 hx hZ (hw _ (List.mem_of_getElem? (i := 35) rfl)) e53 (g := (mkF m 95 #[.val (.ref a0), .val (.ref a1), .val (.ref b3), .val (.int (2 : Int32)), .val (.int (1 : Int32)), .val (.double r1), .second, .val (.int (0 : Int32)), .unset, .unset] [(.int (2 : Int32))])) rfl (hb hby d6_95) rfl (by decide) (cap := 2) (by decide) (by decide) (by decide) (by decide) (ad := "[D") (by decide)
  obtain ⟨b66, g66⟩ : ∃ z, z = h46.size := ⟨_, rfl⟩
  rw [← g66] at A66 EA66 st66
  have V66 := Arv.new A66 (by decide)
  have gn66 : n0 ≤ b66 := Nat.le_trans Z46 (Nat.le_of_eq g66.symm)
  have Z66 : n0 ≤ h66.size := Nat.le_trans Z46 E66.1
  have K66 : ∀ t, Steps p.tables e below (T66.setTop (mkF m 97 #[.val (.ref a0), .val (.ref a1), .val (.ref b3), .val (.int (2 : Int32)), .val (.int (1 : Int32)), .val (.double r1), .second, .val (.int (0 : Int32)), .unset, .unset] [(.ref b66)])) t → Steps p.tables e below G0 t := fun t kt => K53 t (st66 _ kt)
  have ne_a0_b66 : a0 ≠ b66 := Nat.ne_of_lt (Nat.lt_of_lt_of_le (f54).lt (Nat.le_of_eq g66.symm))
  have ne_rb_b66 : rb ≠ b66 := Nat.ne_of_lt (Nat.lt_of_lt_of_le (f55).lt (Nat.le_of_eq g66.symm))
  have ne_ml_b66 : ml ≠ b66 := Nat.ne_of_lt (Nat.lt_of_lt_of_le (f56).lt (Nat.le_of_eq g66.symm))
  have ne_ln_b66 : ln ≠ b66 := Nat.ne_of_lt (Nat.lt_of_lt_of_le (f57).lt (Nat.le_of_eq g66.symm))
  have ne_pe_b66 : pe ≠ b66 := Nat.ne_of_lt (Nat.lt_of_lt_of_le (f58).lt (Nat.le_of_eq g66.symm))
  have ne_pu_b66 : pu ≠ b66 := Nat.ne_of_lt (Nat.lt_of_lt_of_le (f59).lt (Nat.le_of_eq g66.symm))
  have ne_pc_b66 : pc ≠ b66 := Nat.ne_of_lt (Nat.lt_of_lt_of_le (f60).lt (Nat.le_of_eq g66.symm))
  have ne_a1_b66 : a1 ≠ b66 := Nat.ne_of_lt (Nat.lt_of_lt_of_le (f61).lt (Nat.le_of_eq g66.symm))
  have ne_u0_b66 : u0 ≠ b66 := Nat.ne_of_lt (Nat.lt_of_lt_of_le (f62).lt (Nat.le_of_eq g66.symm))
  have ne_u1_b66 : u1 ≠ b66 := Nat.ne_of_lt (Nat.lt_of_lt_of_le (f63).lt (Nat.le_of_eq g66.symm))
  have ne_k0_b66 : k0 ≠ b66 := Nat.ne_of_lt (Nat.lt_of_lt_of_le (f64).lt (Nat.le_of_eq g66.symm))
  have ne_k1_b66 : k1 ≠ b66 := Nat.ne_of_lt (Nat.lt_of_lt_of_le (f65).lt (Nat.le_of_eq g66.symm))
  have ne_b3_b66 : b3 ≠ b66 := Nat.ne_of_lt (Nat.lt_of_lt_of_le (VL46).lt (Nat.le_of_eq g66.symm))
  have VL66 : Arv Z h66 b66 k66 .double (2 : Int32) [(.double 0), (.double 0)] (.double 0) := V66.pad (pad_rep [] (.double 0) 2)
  have K67 : ∀ t, Steps p.tables e below (T66.setTop (mkF m 99 #[.val (.ref a0), .val (.ref a1), .val (.ref b3), .val (.ref b66), .val (.int (1 : Int32)), .val (.double r1), .second, .val (.int (0 : Int32)), .unset, .unset] [(.ref a0)])) t → Steps p.tables e below G0 t := by
    intro t kt
    refine K66 t ?_
    refine XS.astoreN X66.here hx rfl (hb hby d6_97) rfl rfl (l' := #[.val (.ref a0), .val (.ref a1), .val (.ref b3), .val (.ref b66), .val (.int (1 : Int32)), .val (.double r1), .second, .val (.int (0 : Int32)), .unset, .unset]) rfl ?_
    show Steps p.tables e below (T66.setTop (mkF m 98 #[.val (.ref a0), .val (.ref a1), .val (.ref b3), .val (.ref b66), .val (.int (1 : Int32)), .val (.double r1), .second, .val (.int (0 : Int32)), .unset, .unset] [])) _
    refine XS.aloadN X66.here hx rfl (hb hby d6_98) rfl rfl ?_
    show Steps p.tables e below (T66.setTop (mkF m 99 #[.val (.ref a0), .val (.ref a1), .val (.ref b3), .val (.ref b66), .val (.int (1 : Int32)), .val (.double r1), .second, .val (.int (0 : Int32)), .unset, .unset] [(.ref a0)])) _
    exact kt
  have f68 := (f49.ext E66)
  obtain ⟨T69, X69, e69, st69⟩ := getF X66 hx hZ hown (host := "") (Or.inl (hw _ (List.mem_of_getElem? (i := 41) rfl))) Via.refl e66 f68 (g := (mkF m 99 #[.val (.ref a0), .val (.ref a1), .val (.ref b3), .val (.ref b66), .val (.int (1 : Int32)), .val (.double r1), .second, .val (.int (0 : Int32)), .unset, .unset] [(.ref a0)])) rfl rfl (hb hby d6_99)
  have K69 : ∀ t, Steps p.tables e below (T69.setTop (mkF m 102 #[.val (.ref a0), .val (.ref a1), .val (.ref b3), .val (.ref b66), .val (.int (1 : Int32)), .val (.double r1), .second, .val (.int (0 : Int32)), .unset, .unset] [(.int (2 : Int32))])) t → Steps p.tables e below G0 t := fun t kt => K67 t (st69 _ kt)
  have K70 : ∀ t, Steps p.tables e below (T69.setTop (mkF m 106 #[.val (.ref a0), .val (.ref a1), .val (.ref b3), .val (.ref b66), .val (.int ((2 : Int32) - (1 : Int32))), .val (.double r1), .second, .val (.int (0 : Int32)), .unset, .unset] [])) t → Steps p.tables e below G0 t := by
    intro t kt
    refine K69 t ?_
    refine XS.iconst X69.here hx rfl (hb hby d6_102) ?_
    show Steps p.tables e below (T69.setTop (mkF m 103 #[.val (.ref a0), .val (.ref a1), .val (.ref b3), .val (.ref b66), .val (.int (1 : Int32)), .val (.double r1), .second, .val (.int (0 : Int32)), .unset, .unset] [(.int (1 : Int32)), (.int (2 : Int32))])) _
    refine XS.isub X69.here hx rfl (hb hby d6_103) rfl ?_
    show Steps p.tables e below (T69.setTop (mkF m 104 #[.val (.ref a0), .val (.ref a1), .val (.ref b3), .val (.ref b66), .val (.int (1 : Int32)), .val (.double r1), .second, .val (.int (0 : Int32)), .unset, .unset] [(.int ((2 : Int32) - (1 : Int32)))])) _
    refine XS.istore X69.here hx rfl (hb hby d6_104) rfl (l' := #[.val (.ref a0), .val (.ref a1), .val (.ref b3), .val (.ref b66), .val (.int ((2 : Int32) - (1 : Int32))), .val (.double r1), .second, .val (.int (0 : Int32)), .unset, .unset]) rfl ?_
    show Steps p.tables e below (T69.setTop (mkF m 106 #[.val (.ref a0), .val (.ref a1), .val (.ref b3), .val (.ref b66), .val (.int ((2 : Int32) - (1 : Int32))), .val (.double r1), .second, .val (.int (0 : Int32)), .unset, .unset] [])) _
    exact kt
  rw [show ((2 : Int32) - (1 : Int32)) = (1 : Int32) from by decide] at K70
  have K71 : ∀ t, Steps p.tables e below (T69.setTop (mkF m 112 #[.val (.ref a0), .val (.ref a1), .val (.ref b3), .val (.ref b66), .val (.int (1 : Int32)), .val (.double r1), .second, .val (.int (0 : Int32)), .unset, .unset] [(.ref a0)])) t → Steps p.tables e below G0 t := by
    intro t kt
    refine K70 t ?_
    refine XS.iload X69.here hx rfl (hb hby d6_106) rfl ?_
    show Steps p.tables e below (T69.setTop (mkF m 108 #[.val (.ref a0), .val (.ref a1), .val (.ref b3), .val (.ref b66), .val (.int (1 : Int32)), .val (.double r1), .second, .val (.int (0 : Int32)), .unset, .unset] [(.int (1 : Int32))])) _
    refine XS.ifNo X69.here hx rfl (hb hby d6_108) rfl ((if0 _ _).trans (flt (by decide)).1) ?_
    show Steps p.tables e below (T69.setTop (mkF m 111 #[.val (.ref a0), .val (.ref a1), .val (.ref b3), .val (.ref b66), .val (.int (1 : Int32)), .val (.double r1), .second, .val (.int (0 : Int32)), .unset, .unset] [])) _
    refine XS.aloadN X69.here hx rfl (hb hby d6_111) rfl rfl ?_
    show Steps p.tables e below (T69.setTop (mkF m 112 #[.val (.ref a0), .val (.ref a1), .val (.ref b3), .val (.ref b66), .val (.int (1 : Int32)), .val (.double r1), .second, .val (.int (0 : Int32)), .unset, .unset] [(.ref a0)])) _
    exact kt
  have f72 := ((((fc_8.ext E3).other W24 (Or.inl ne_a0_b3)).other W46 (Or.inl ne_a0_b3)).ext E66)
  obtain ⟨T73, X73, e73, st73⟩ := getF X69 hx hZ hown (host := "") (Or.inl (hw _ (List.mem_of_getElem? (i := 31) rfl))) Via.refl e69 f72 (g := (mkF m 112 #[.val (.ref a0), .val (.ref a1), .val (.ref b3), .val (.ref b66), .val (.int (1 : Int32)), .val (.double r1), .second, .val (.int (0 : Int32)), .unset, .unset] [(.ref a0)])) rfl rfl (hb hby d6_112)
  have K73 : ∀ t, Steps p.tables e below (T73.setTop (mkF m 115 #[.val (.ref a0), .val (.ref a1), .val (.ref b3), .val (.ref b66), .val (.int (1 : Int32)), .val (.double r1), .second, .val (.int (0 : Int32)), .unset, .unset] [(.ref pu)])) t → Steps p.tables e below G0 t := fun t kt => K71 t (st73 _ kt)
  have K74 : ∀ t, Steps p.tables e below (T73.setTop (mkF m 117 #[.val (.ref a0), .val (.ref a1), .val (.ref b3), .val (.ref b66), .val (.int (1 : Int32)), .val (.double r1), .second, .val (.int (0 : Int32)), .unset, .unset] [(.int (1 : Int32)), (.ref pu)])) t → Steps p.tables e below G0 t := by
    intro t kt
    refine K73 t ?_
    refine XS.iload X73.here hx rfl (hb hby d6_115) rfl ?_
    show Steps p.tables e below (T73.setTop (mkF m 117 #[.val (.ref a0), .val (.ref a1), .val (.ref b3), .val (.ref b66), .val (.int (1 : Int32)), .val (.double r1), .second, .val (.int (0 : Int32)), .unset, .unset] [(.int (1 : Int32)), (.ref pu)])) _
    exact kt
  have f75 := (f59.ext E66)
  obtain ⟨cl76, Ar76, qq76, S76, M76, H76, GG76⟩ := id f75
  have hin76 : ¬ ((1 : Int32) < 0 ∨ cl76.slots.size ≤ ((1 : Int32)).toNatClampNeg) := inb_of S76 ⟨by decide, by decide⟩
  have hat76 : cl76.slots[((1 : Int32)).toNatClampNeg]? = some (.ref u1) := Has.at H76 hin76 rfl
  have K77 : ∀ t, Steps p.tables e below (T73.setTop (mkF m 121 #[.val (.ref a0), .val (.ref a1), .val (.ref b3), .val (.ref b66), .val (.int (1 : Int32)), .val (.ref u1), .unset, .val (.int (0 : Int32)), .unset, .unset] [(.ref a0)])) t → Steps p.tables e below G0 t := by
    intro t kt
    refine K74 t ?_
    refine X73.aaload hx (j := (1 : Int32)) (v := (.ref u1)) (by rw [e73]; exact (Ar76).1) (State.isArrayOf_alike hZ.alike (Ar76).2.1) rfl (Ar76).2.2 hin76 hat76 (g := (mkF m 117 #[.val (.ref a0), .val (.ref a1), .val (.ref b3), .val (.ref b66), .val (.int (1 : Int32)), .val (.double r1), .second, .val (.int (0 : Int32)), .unset, .unset] [(.int (1 : Int32)), (.ref pu)])) rfl rfl (hb hby d6_117) _ ?_
    show Steps p.tables e below (T73.setTop (mkF m 118 #[.val (.ref a0), .val (.ref a1), .val (.ref b3), .val (.ref b66), .val (.int (1 : Int32)), .val (.double r1), .second, .val (.int (0 : Int32)), .unset, .unset] [(.ref u1)])) _
    refine XS.astore X73.here hx rfl (hb hby d6_118) rfl rfl (l' := #[.val (.ref a0), .val (.ref a1), .val (.ref b3), .val (.ref b66), .val (.int (1 : Int32)), .val (.ref u1), .unset, .val (.int (0 : Int32)), .unset, .unset]) rfl ?_
    show Steps p.tables e below (T73.setTop (mkF m 120 #[.val (.ref a0), .val (.ref a1), .val (.ref b3), .val (.ref b66), .val (.int (1 : Int32)), .val (.ref u1), .unset, .val (.int (0 : Int32)), .unset, .unset] [])) _
    refine XS.aloadN X73.here hx rfl (hb hby d6_120) rfl rfl ?_
    show Steps p.tables e below (T73.setTop (mkF m 121 #[.val (.ref a0), .val (.ref a1), .val (.ref b3), .val (.ref b66), .val (.int (1 : Int32)), .val (.ref u1), .unset, .val (.int (0 : Int32)), .unset, .unset] [(.ref a0)])) _
    exact kt
  have f78 := ((((fc_9.ext E3).other W24 (Or.inl ne_a0_b3)).other W46 (Or.inl ne_a0_b3)).ext E66)
  obtain ⟨T79, X79, e79, st79⟩ := getF X73 hx hZ hown (host := "") (Or.inl (hw _ (List.mem_of_getElem? (i := 33) rfl))) Via.refl e73 f78 (g := (mkF m 121 #[.val (.ref a0), .val (.ref a1), .val (.ref b3), .val (.ref b66), .val (.int (1 : Int32)), .val (.ref u1), .unset, .val (.int (0 : Int32)), .unset, .unset] [(.ref a0)])) rfl rfl (hb hby d6_121)
  have K79 : ∀ t, Steps p.tables e below (T79.setTop (mkF m 124 #[.val (.ref a0), .val (.ref a1), .val (.ref b3), .val (.ref b66), .val (.int (1 : Int32)), .val (.ref u1), .unset, .val (.int (0 : Int32)), .unset, .unset] [(.ref pc)])) t → Steps p.tables e below G0 t := fun t kt => K77 t (st79 _ kt)
  have K80 : ∀ t, Steps p.tables e below (T79.setTop (mkF m 126 #[.val (.ref a0), .val (.ref a1), .val (.ref b3), .val (.ref b66), .val (.int (1 : Int32)), .val (.ref u1), .unset, .val (.int (0 : Int32)), .unset, .unset] [(.int (1 : Int32)), (.ref pc)])) t → Steps p.tables e below G0 t := by
    intro t kt
    refine K79 t ?_
    refine XS.iload X79.here hx rfl (hb hby d6_124) rfl ?_
    show Steps p.tables e below (T79.setTop (mkF m 126 #[.val (.ref a0), .val (.ref a1), .val (.ref b3), .val (.ref b66), .val (.int (1 : Int32)), .val (.ref u1), .unset, .val (.int (0 : Int32)), .unset, .unset] [(.int (1 : Int32)), (.ref pc)])) _
    exact kt
  have f81 := (f60.ext E66)
  obtain ⟨cl82, Ar82, qq82, S82, M82, H82, GG82⟩ := id f81
  have hin82 : ¬ ((1 : Int32) < 0 ∨ cl82.slots.size ≤ ((1 : Int32)).toNatClampNeg) := inb_of S82 ⟨by decide, by decide⟩
  have hat82 : cl82.slots[((1 : Int32)).toNatClampNeg]? = some (.ref k1) := Has.at H82 hin82 rfl
  have K83 : ∀ t, Steps p.tables e below (T79.setTop (mkF m 132 #[.val (.ref a0), .val (.ref a1), .val (.ref b3), .val (.ref b66), .val (.int (1 : Int32)), .val (.ref u1), .val (.ref k1), .val (.int (0 : Int32)), .unset, .unset] [(.int (1 : Int32)), (.ref b3)])) t → Steps p.tables e below G0 t := by
    intro t kt
    refine K80 t ?_
    refine X79.aaload hx (j := (1 : Int32)) (v := (.ref k1)) (by rw [e79]; exact (Ar82).1) (State.isArrayOf_alike hZ.alike (Ar82).2.1) rfl (Ar82).2.2 hin82 hat82 (g := (mkF m 126 #[.val (.ref a0), .val (.ref a1), .val (.ref b3), .val (.ref b66), .val (.int (1 : Int32)), .val (.ref u1), .unset, .val (.int (0 : Int32)), .unset, .unset] [(.int (1 : Int32)), (.ref pc)])) rfl rfl (hb hby d6_126) _ ?_
    show Steps p.tables e below (T79.setTop (mkF m 127 #[.val (.ref a0), .val (.ref a1), .val (.ref b3), .val (.ref b66), .val (.int (1 : Int32)), .val (.ref u1), .unset, .val (.int (0 : Int32)), .unset, .unset] [(.ref k1)])) _
    refine XS.astore X79.here hx rfl (hb hby d6_127) rfl rfl (l' := #[.val (.ref a0), .val (.ref a1), .val (.ref b3), .val (.ref b66), .val (.int (1 : Int32)), .val (.ref u1), .val (.ref k1), .val (.int (0 : Int32)), .unset, .unset]) rfl ?_
    show Steps p.tables e below (T79.setTop (mkF m 129 #[.val (.ref a0), .val (.ref a1), .val (.ref b3), .val (.ref b66), .val (.int (1 : Int32)), .val (.ref u1), .val (.ref k1), .val (.int (0 : Int32)), .unset, .unset] [])) _
    refine XS.aloadN X79.here hx rfl (hb hby d6_129) rfl rfl ?_
    show Steps p.tables e below (T79.setTop (mkF m 130 #[.val (.ref a0), .val (.ref a1), .val (.ref b3), .val (.ref b66), .val (.int (1 : Int32)), .val (.ref u1), .val (.ref k1), .val (.int (0 : Int32)), .unset, .unset] [(.ref b3)])) _
    refine XS.iload X79.here hx rfl (hb hby d6_130) rfl ?_
    show Steps p.tables e below (T79.setTop (mkF m 132 #[.val (.ref a0), .val (.ref a1), .val (.ref b3), .val (.ref b66), .val (.int (1 : Int32)), .val (.ref u1), .val (.ref k1), .val (.int (0 : Int32)), .unset, .unset] [(.int (1 : Int32)), (.ref b3)])) _
    exact kt
  have f84 := (VL46.ext E66)
  obtain ⟨cl85, Ar85, qq85, S85, M85, H85, GG85⟩ := id f84
  have hin85 : ¬ ((1 : Int32) < 0 ∨ cl85.slots.size ≤ ((1 : Int32)).toNatClampNeg) := inb_of S85 ⟨by decide, by decide⟩
  have hat85 : cl85.slots[((1 : Int32)).toNatClampNeg]? = some (.double r1) := Has.at H85 hin85 rfl
  have K86 : ∀ t, Steps p.tables e below (T79.setTop (mkF m 142 #[.val (.ref a0), .val (.ref a1), .val (.ref b3), .val (.ref b66), .val (.int (1 : Int32)), .val (.ref u1), .val (.ref k1), .val (.double r1), .second, .val (.int (1 : Int32))] [(.ref u1), (.int (1 : Int32))])) t → Steps p.tables e below G0 t := by
    intro t kt
    refine K83 t ?_
    refine X79.daload hx (j := (1 : Int32)) (v := (.double r1)) (by rw [e79]; exact (Ar85).1) (State.isArrayOf_alike hZ.alike (Ar85).2.1) (Ar85).2.2 hin85 hat85 (g := (mkF m 132 #[.val (.ref a0), .val (.ref a1), .val (.ref b3), .val (.ref b66), .val (.int (1 : Int32)), .val (.ref u1), .val (.ref k1), .val (.int (0 : Int32)), .unset, .unset] [(.int (1 : Int32)), (.ref b3)])) rfl rfl (hb hby d6_132) _ ?_
    show Steps p.tables e below (T79.setTop (mkF m 133 #[.val (.ref a0), .val (.ref a1), .val (.ref b3), .val (.ref b66), .val (.int (1 : Int32)), .val (.ref u1), .val (.ref k1), .val (.int (0 : Int32)), .unset, .unset] [(.double r1)])) _
    refine XS.dstore X79.here hx rfl (hb hby d6_133) rfl (l' := #[.val (.ref a0), .val (.ref a1), .val (.ref b3), .val (.ref b66), .val (.int (1 : Int32)), .val (.ref u1), .val (.ref k1), .val (.double r1), .second, .unset]) rfl ?_
    show Steps p.tables e below (T79.setTop (mkF m 135 #[.val (.ref a0), .val (.ref a1), .val (.ref b3), .val (.ref b66), .val (.int (1 : Int32)), .val (.ref u1), .val (.ref k1), .val (.double r1), .second, .unset] [])) _
    refine XS.iconst X79.here hx rfl (hb hby d6_135) ?_
    show Steps p.tables e below (T79.setTop (mkF m 136 #[.val (.ref a0), .val (.ref a1), .val (.ref b3), .val (.ref b66), .val (.int (1 : Int32)), .val (.ref u1), .val (.ref k1), .val (.double r1), .second, .unset] [(.int (1 : Int32))])) _
    refine XS.istore X79.here hx rfl (hb hby d6_136) rfl (l' := #[.val (.ref a0), .val (.ref a1), .val (.ref b3), .val (.ref b66), .val (.int (1 : Int32)), .val (.ref u1), .val (.ref k1), .val (.double r1), .second, .val (.int (1 : Int32))]) rfl ?_
    show Steps p.tables e below (T79.setTop (mkF m 138 #[.val (.ref a0), .val (.ref a1), .val (.ref b3), .val (.ref b66), .val (.int (1 : Int32)), .val (.ref u1), .val (.ref k1), .val (.double r1), .second, .val (.int (1 : Int32))] [])) _
    refine XS.iload X79.here hx rfl (hb hby d6_138) rfl ?_
    show Steps p.tables e below (T79.setTop (mkF m 140 #[.val (.ref a0), .val (.ref a1), .val (.ref b3), .val (.ref b66), .val (.int (1 : Int32)), .val (.ref u1), .val (.ref k1), .val (.double r1), .second, .val (.int (1 : Int32))] [(.int (1 : Int32))])) _
    refine XS.aload X79.here hx rfl (hb hby d6_140) rfl rfl ?_
    show Steps p.tables e below (T79.setTop (mkF m 142 #[.val (.ref a0), .val (.ref a1), .val (.ref b3), .val (.ref b66), .val (.int (1 : Int32)), .val (.ref u1), .val (.ref k1), .val (.double r1), .second, .val (.int (1 : Int32))] [(.ref u1), (.int (1 : Int32))])) _
    exact kt
  have f87 := (f63.ext E66)
  obtain ⟨cl88, Ar88, qq88, S88, M88, H88, GG88⟩ := id f87
  have K89 : ∀ t, Steps p.tables e below (T79.setTop (mkF m 174 #[.val (.ref a0), .val (.ref a1), .val (.ref b3), .val (.ref b66), .val (.int (1 : Int32)), .val (.ref u1), .val (.ref k1), .val (.double r1), .second, .val (.int (1 : Int32))] [(.int (0 : Int32)), (.ref u1), (.ref b66)])) t → Steps p.tables e below G0 t := by
    intro t kt
    refine K86 t ?_
    refine X79.arraylength hx (by rw [e79]; exact (Ar88).1) (State.isArrayOf_alike hZ.alike (Ar88).2.1) (g := (mkF m 142 #[.val (.ref a0), .val (.ref a1), .val (.ref b3), .val (.ref b66), .val (.int (1 : Int32)), .val (.ref u1), .val (.ref k1), .val (.double r1), .second, .val (.int (1 : Int32))] [(.ref u1), (.int (1 : Int32))])) rfl rfl (hb hby d6_142) _ ?_
    rw [len_of S88 M88]
    show Steps p.tables e below (T79.setTop (mkF m 143 #[.val (.ref a0), .val (.ref a1), .val (.ref b3), .val (.ref b66), .val (.int (1 : Int32)), .val (.ref u1), .val (.ref k1), .val (.double r1), .second, .val (.int (1 : Int32))] [(.int (1 : Int32)), (.int (1 : Int32))])) _
    refine XS.icmpYes X79.here hx rfl (pc0 := 143) (pc' := 170) rfl (hb hby d6_143) rfl (flt (by decide)).2.1 (by decide) (by decide) ?_
    show Steps p.tables e below (T79.setTop (mkF m 170 #[.val (.ref a0), .val (.ref a1), .val (.ref b3), .val (.ref b66), .val (.int (1 : Int32)), .val (.ref u1), .val (.ref k1), .val (.double r1), .second, .val (.int (1 : Int32))] [])) _
    refine XS.aloadN X79.here hx rfl (hb hby d6_170) rfl rfl ?_
    show Steps p.tables e below (T79.setTop (mkF m 171 #[.val (.ref a0), .val (.ref a1), .val (.ref b3), .val (.ref b66), .val (.int (1 : Int32)), .val (.ref u1), .val (.ref k1), .val (.double r1), .second, .val (.int (1 : Int32))] [(.ref b66)])) _
    refine XS.aload X79.here hx rfl (hb hby d6_171) rfl rfl ?_
    show Steps p.tables e below (T79.setTop (mkF m 173 #[.val (.ref a0), .val (.ref a1), .val (.ref b3), .val (.ref b66), .val (.int (1 : Int32)), .val (.ref u1), .val (.ref k1), .val (.double r1), .second, .val (.int (1 : Int32))] [(.ref u1), (.ref b66)])) _
    refine XS.iconst X79.here hx rfl (hb hby d6_173) ?_
    show Steps p.tables e below (T79.setTop (mkF m 174 #[.val (.ref a0), .val (.ref a1), .val (.ref b3), .val (.ref b66), .val (.int (1 : Int32)), .val (.ref u1), .val (.ref k1), .val (.double r1), .second, .val (.int (1 : Int32))] [(.int (0 : Int32)), (.ref u1), (.ref b66)])) _
    exact kt
  obtain ⟨cl90, Ar90, qq90, S90, M90, H90, GG90⟩ := id f87
  have hin90 : ¬ ((0 : Int32) < 0 ∨ cl90.slots.size ≤ ((0 : Int32)).toNatClampNeg) := inb_of S90 ⟨by decide, by decide⟩
  have hat90 : cl90.slots[((0 : Int32)).toNatClampNeg]? = some (.int (0 : Int32)) := Has.at H90 hin90 rfl
  have K91 : ∀ t, Steps p.tables e below (T79.setTop (mkF m 180 #[.val (.ref a0), .val (.ref a1), .val (.ref b3), .val (.ref b66), .val (.int (1 : Int32)), .val (.ref u1), .val (.ref k1), .val (.double r1), .second, .val (.int (1 : Int32))] [(.int (0 : Int32)), (.ref k1), (.double r1), (.int (0 : Int32)), (.ref b66)])) t → Steps p.tables e below G0 t := by
    intro t kt
    refine K89 t ?_
    refine X79.iaload hx (j := (0 : Int32)) (v := (.int (0 : Int32))) (by rw [e79]; exact (Ar90).1) (State.isArrayOf_alike hZ.alike (Ar90).2.1) (Ar90).2.2 hin90 hat90 (g := (mkF m 174 #[.val (.ref a0), .val (.ref a1), .val (.ref b3), .val (.ref b66), .val (.int (1 : Int32)), .val (.ref u1), .val (.ref k1), .val (.double r1), .second, .val (.int (1 : Int32))] [(.int (0 : Int32)), (.ref u1), (.ref b66)])) rfl rfl (hb hby d6_174) _ ?_
    show Steps p.tables e below (T79.setTop (mkF m 175 #[.val (.ref a0), .val (.ref a1), .val (.ref b3), .val (.ref b66), .val (.int (1 : Int32)), .val (.ref u1), .val (.ref k1), .val (.double r1), .second, .val (.int (1 : Int32))] [(.int (0 : Int32)), (.ref b66)])) _
    refine XS.dload X79.here hx rfl (hb hby d6_175) rfl ?_
    show Steps p.tables e below (T79.setTop (mkF m 177 #[.val (.ref a0), .val (.ref a1), .val (.ref b3), .val (.ref b66), .val (.int (1 : Int32)), .val (.ref u1), .val (.ref k1), .val (.double r1), .second, .val (.int (1 : Int32))] [(.double r1), (.int (0 : Int32)), (.ref b66)])) _
    refine XS.aload X79.here hx rfl (hb hby d6_177) rfl rfl ?_
    show Steps p.tables e below (T79.setTop (mkF m 179 #[.val (.ref a0), .val (.ref a1), .val (.ref b3), .val (.ref b66), .val (.int (1 : Int32)), .val (.ref u1), .val (.ref k1), .val (.double r1), .second, .val (.int (1 : Int32))] [(.ref k1), (.double r1), (.int (0 : Int32)), (.ref b66)])) _
    refine XS.iconst X79.here hx rfl (hb hby d6_179) ?_
    show Steps p.tables e below (T79.setTop (mkF m 180 #[.val (.ref a0), .val (.ref a1), .val (.ref b3), .val (.ref b66), .val (.int (1 : Int32)), .val (.ref u1), .val (.ref k1), .val (.double r1), .second, .val (.int (1 : Int32))] [(.int (0 : Int32)), (.ref k1), (.double r1), (.int (0 : Int32)), (.ref b66)])) _
    exact kt
  have f92 := (f65.ext E66)
  obtain ⟨cl93, Ar93, qq93, S93, M93, H93, GG93⟩ := id f92
  have hin93 : ¬ ((0 : Int32) < 0 ∨ cl93.slots.size ≤ ((0 : Int32)).toNatClampNeg) := inb_of S93 ⟨by decide, by decide⟩
  have hat93 : cl93.slots[((0 : Int32)).toNatClampNeg]? = some (.double dd) := Has.at H93 hin93 rfl
  have K94 : ∀ t, Steps p.tables e below (T79.setTop (mkF m 182 #[.val (.ref a0), .val (.ref a1), .val (.ref b3), .val (.ref b66), .val (.int (1 : Int32)), .val (.ref u1), .val (.ref k1), .val (.double r1), .second, .val (.int (1 : Int32))] [(.double (FP.ddiv r1 dd)), (.int (0 : Int32)), (.ref b66)])) t → Steps p.tables e below G0 t := by
    intro t kt
    refine K91 t ?_
    refine X79.daload hx (j := (0 : Int32)) (v := (.double dd)) (by rw [e79]; exact (Ar93).1) (State.isArrayOf_alike hZ.alike (Ar93).2.1) (Ar93).2.2 hin93 hat93 (g := (mkF m 180 #[.val (.ref a0), .val (.ref a1), .val (.ref b3), .val (.ref b66), .val (.int (1 : Int32)), .val (.ref u1), .val (.ref k1), .val (.double r1), .second, .val (.int (1 : Int32))] [(.int (0 : Int32)), (.ref k1), (.double r1), (.int (0 : Int32)), (.ref b66)])) rfl rfl (hb hby d6_180) _ ?_
    show Steps p.tables e below (T79.setTop (mkF m 181 #[.val (.ref a0), .val (.ref a1), .val (.ref b3), .val (.ref b66), .val (.int (1 : Int32)), .val (.ref u1), .val (.ref k1), .val (.double r1), .second, .val (.int (1 : Int32))] [(.double dd), (.double r1), (.int (0 : Int32)), (.ref b66)])) _
    refine XS.ddivS X79.here hx rfl (hb hby d6_181) rfl hn1 rfl ?_
    show Steps p.tables e below (T79.setTop (mkF m 182 #[.val (.ref a0), .val (.ref a1), .val (.ref b3), .val (.ref b66), .val (.int (1 : Int32)), .val (.ref u1), .val (.ref k1), .val (.double r1), .second, .val (.int (1 : Int32))] [(.double (FP.ddiv r1 dd)), (.int (0 : Int32)), (.ref b66)])) _
    exact kt
  obtain ⟨cl95, Ar95, qq95, S95, M95, H95, GG95⟩ := id VL66
  have hin95 : ¬ ((0 : Int32) < 0 ∨ cl95.slots.size ≤ ((0 : Int32)).toNatClampNeg) := inb_of S95 ⟨by decide, by decide⟩
  obtain ⟨T96, h96, X96, e96, W96, st96⟩ := stD X79 hx hZ e79 Ar95 (j := (0 : Int32)) hin95 (g := (mkF m 182 #[.val (.ref a0), .val (.ref a1), .val (.ref b3), .val (.ref b66), .val (.int (1 : Int32)), .val (.ref u1), .val (.ref k1), .val (.double r1), .second, .val (.int (1 : Int32))] [(.double (FP.ddiv r1 dd)), (.int (0 : Int32)), (.ref b66)])) rfl rfl (hb hby d6_182)
  have K96 : ∀ t, Steps p.tables e below (T96.setTop (mkF m 183 #[.val (.ref a0), .val (.ref a1), .val (.ref b3), .val (.ref b66), .val (.int (1 : Int32)), .val (.ref u1), .val (.ref k1), .val (.double r1), .second, .val (.int (1 : Int32))] [])) t → Steps p.tables e below G0 t := fun t kt => K94 t (st96 _ kt)
  have Z96 : n0 ≤ h96.size := Nat.le_trans Z66 (Keep.of_wr W96).1
  have VL96 : Arv Z h96 b66 k66 .double (2 : Int32) [(.double (FP.ddiv r1 dd)), (.double 0)] (.double 0) := Arv.set Ar95 qq95 S95 M95 H95 GG95 rfl W96 0 rfl (Nat.le_of_ble_eq_true rfl)
  have N96 := Fr.snoc X96 N46 gn66
  have K97 : ∀ t, Steps p.tables e below (T96.setTop (mkF m 186 #[.val (.ref a0), .val (.ref a1), .val (.ref b3), .val (.ref b66), .val (.int ((1 : Int32) + (-1 : Int32))), .val (.ref u1), .val (.ref k1), .val (.double r1), .second, .val (.int (1 : Int32))] [])) t → Steps p.tables e below G0 t := by
    intro t kt
    refine K96 t ?_
    refine XS.iinc X96.here hx rfl (hb hby d6_183) rfl (l' := #[.val (.ref a0), .val (.ref a1), .val (.ref b3), .val (.ref b66), .val (.int ((1 : Int32) + (-1 : Int32))), .val (.ref u1), .val (.ref k1), .val (.double r1), .second, .val (.int (1 : Int32))]) rfl ?_
    show Steps p.tables e below (T96.setTop (mkF m 186 #[.val (.ref a0), .val (.ref a1), .val (.ref b3), .val (.ref b66), .val (.int ((1 : Int32) + (-1 : Int32))), .val (.ref u1), .val (.ref k1), .val (.double r1), .second, .val (.int (1 : Int32))] [])) _
    exact kt
  rw [show ((1 : Int32) + (-1 : Int32)) = (0 : Int32) from by decide] at K97
  have K98 : ∀ t, Steps p.tables e below (T96.setTop (mkF m 112 #[.val (.ref a0), .val (.ref a1), .val (.ref b3), .val (.ref b66), .val (.int (0 : Int32)), .val (.ref u1), .val (.ref k1), .val (.double r1), .second, .val (.int (1 : Int32))] [(.ref a0)])) t → Steps p.tables e below G0 t := by
    intro t kt
    refine K97 t ?_
    refine XS.goto X96.here hx rfl (pc0 := 186) (pc' := 106) rfl (hb hby d6_186) (by decide) (by decide) ?_
    show Steps p.tables e below (T96.setTop (mkF m 106 #[.val (.ref a0), .val (.ref a1), .val (.ref b3), .val (.ref b66), .val (.int (0 : Int32)), .val (.ref u1), .val (.ref k1), .val (.double r1), .second, .val (.int (1 : Int32))] [])) _
    refine XS.iload X96.here hx rfl (hb hby d6_106) rfl ?_
    show Steps p.tables e below (T96.setTop (mkF m 108 #[.val (.ref a0), .val (.ref a1), .val (.ref b3), .val (.ref b66), .val (.int (0 : Int32)), .val (.ref u1), .val (.ref k1), .val (.double r1), .second, .val (.int (1 : Int32))] [(.int (0 : Int32))])) _
    refine XS.ifNo X96.here hx rfl (hb hby d6_108) rfl ((if0 _ _).trans (flt (by decide)).1) ?_
    show Steps p.tables e below (T96.setTop (mkF m 111 #[.val (.ref a0), .val (.ref a1), .val (.ref b3), .val (.ref b66), .val (.int (0 : Int32)), .val (.ref u1), .val (.ref k1), .val (.double r1), .second, .val (.int (1 : Int32))] [])) _
    refine XS.aloadN X96.here hx rfl (hb hby d6_111) rfl rfl ?_
    show Steps p.tables e below (T96.setTop (mkF m 112 #[.val (.ref a0), .val (.ref a1), .val (.ref b3), .val (.ref b66), .val (.int (0 : Int32)), .val (.ref u1), .val (.ref k1), .val (.double r1), .second, .val (.int (1 : Int32))] [(.ref a0)])) _
    exact kt
  have f99 := (f72.other W96 (Or.inl ne_a0_b66))
  obtain ⟨T100, X100, e100, st100⟩ := getF X96 hx hZ hown (host := "") (Or.inl (hw _ (List.mem_of_getElem? (i := 31) rfl))) Via.refl e96 f99 (g := (mkF m 112 #[.val (.ref a0), .val (.ref a1), .val (.ref b3), .val (.ref b66), .val (.int (0 : Int32)), .val (.ref u1), .val (.ref k1), .val (.double r1), .second, .val (.int (1 : Int32))] [(.ref a0)])) rfl rfl (hb hby d6_112)
  have K100 : ∀ t, Steps p.tables e below (T100.setTop (mkF m 115 #[.val (.ref a0), .val (.ref a1), .val (.ref b3), .val (.ref b66), .val (.int (0 : Int32)), .val (.ref u1), .val (.ref k1), .val (.double r1), .second, .val (.int (1 : Int32))] [(.ref pu)])) t → Steps p.tables e below G0 t := fun t kt => K98 t (st100 _ kt)
  have K101 : ∀ t, Steps p.tables e below (T100.setTop (mkF m 117 #[.val (.ref a0), .val (.ref a1), .val (.ref b3), .val (.ref b66), .val (.int (0 : Int32)), .val (.ref u1), .val (.ref k1), .val (.double r1), .second, .val (.int (1 : Int32))] [(.int (0 : Int32)), (.ref pu)])) t → Steps p.tables e below G0 t := by
    intro t kt
    refine K100 t ?_
    refine XS.iload X100.here hx rfl (hb hby d6_115) rfl ?_
    show Steps p.tables e below (T100.setTop (mkF m 117 #[.val (.ref a0), .val (.ref a1), .val (.ref b3), .val (.ref b66), .val (.int (0 : Int32)), .val (.ref u1), .val (.ref k1), .val (.double r1), .second, .val (.int (1 : Int32))] [(.int (0 : Int32)), (.ref pu)])) _
    exact kt
  have f102 := (f75.other W96 ne_pu_b66)
  obtain ⟨cl103, Ar103, qq103, S103, M103, H103, GG103⟩ := id f102
  have hin103 : ¬ ((0 : Int32) < 0 ∨ cl103.slots.size ≤ ((0 : Int32)).toNatClampNeg) := inb_of S103 ⟨by decide, by decide⟩
  have hat103 : cl103.slots[((0 : Int32)).toNatClampNeg]? = some (.ref u0) := Has.at H103 hin103 rfl
  have K104 : ∀ t, Steps p.tables e below (T100.setTop (mkF m 121 #[.val (.ref a0), .val (.ref a1), .val (.ref b3), .val (.ref b66), .val (.int (0 : Int32)), .val (.ref u0), .val (.ref k1), .val (.double r1), .second, .val (.int (1 : Int32))] [(.ref a0)])) t → Steps p.tables e below G0 t := by
    intro t kt
    refine K101 t ?_
    refine X100.aaload hx (j := (0 : Int32)) (v := (.ref u0)) (by rw [e100]; exact (Ar103).1) (State.isArrayOf_alike hZ.alike (Ar103).2.1) rfl (Ar103).2.2 hin103 hat103 (g := (mkF m 117 #[.val (.ref a0), .val (.ref a1), .val (.ref b3), .val (.ref b66), .val (.int (0 : Int32)), .val (.ref u1), .val (.ref k1), .val (.double r1), .second, .val (.int (1 : Int32))] [(.int (0 : Int32)), (.ref pu)])) rfl rfl (hb hby d6_117) _ ?_
    show Steps p.tables e below (T100.setTop (mkF m 118 #[.val (.ref a0), .val (.ref a1), .val (.ref b3), .val (.ref b66), .val (.int (0 : Int32)), .val (.ref u1), .val (.ref k1), .val (.double r1), .second, .val (.int (1 : Int32))] [(.ref u0)])) _
    refine XS.astore X100.here hx rfl (hb hby d6_118) rfl rfl (l' := #[.val (.ref a0), .val (.ref a1), .val (.ref b3), .val (.ref b66), .val (.int (0 : Int32)), .val (.ref u0), .val (.ref k1), .val (.double r1), .second, .val (.int (1 : Int32))]) rfl ?_
    show Steps p.tables e below (T100.setTop (mkF m 120 #[.val (.ref a0), .val (.ref a1), .val (.ref b3), .val (.ref b66), .val (.int (0 : Int32)), .val (.ref u0), .val (.ref k1), .val (.double r1), .second, .val (.int (1 : Int32))] [])) _
    refine XS.aloadN X100.here hx rfl (hb hby d6_120) rfl rfl ?_
    show Steps p.tables e below (T100.setTop (mkF m 121 #[.val (.ref a0), .val (.ref a1), .val (.ref b3), .val (.ref b66), .val (.int (0 : Int32)), .val (.ref u0), .val (.ref k1), .val (.double r1), .second, .val (.int (1 : Int32))] [(.ref a0)])) _
    exact kt
  have f105 := (f78.other W96 (Or.inl ne_a0_b66))
  obtain ⟨T106, X106, e106, st106⟩ := getF X100 hx hZ hown (host := "") (Or.inl (hw _ (List.mem_of_getElem? (i := 33) rfl))) Via.refl e100 f105 (g := (mkF m 121 #[.val (.ref a0), .val (.ref a1), .val (.ref b3), .val (.ref b66), .val (.int (0 : Int32)), .val (.ref u0), .val (.ref k1), .val (.double r1), .second, .val (.int (1 : Int32))] [(.ref a0)])) rfl rfl (hb hby d6_121)
  have K106 : ∀ t, Steps p.tables e below (T106.setTop (mkF m 124 #[.val (.ref a0), .val (.ref a1), .val (.ref b3), .val (.ref b66), .val (.int (0 : Int32)), .val (.ref u0), .val (.ref k1), .val (.double r1), .second, .val (.int (1 : Int32))] [(.ref pc)])) t → Steps p.tables e below G0 t := fun t kt => K104 t (st106 _ kt)
  have K107 : ∀ t, Steps p.tables e below (T106.setTop (mkF m 126 #[.val (.ref a0), .val (.ref a1), .val (.ref b3), .val (.ref b66), .val (.int (0 : Int32)), .val (.ref u0), .val (.ref k1), .val (.double r1), .second, .val (.int (1 : Int32))] [(.int (0 : Int32)), (.ref pc)])) t → Steps p.tables e below G0 t := by
    intro t kt
    refine K106 t ?_
    refine XS.iload X106.here hx rfl (hb hby d6_124) rfl ?_
    show Steps p.tables e below (T106.setTop (mkF m 126 #[.val (.ref a0), .val (.ref a1), .val (.ref b3), .val (.ref b66), .val (.int (0 : Int32)), .val (.ref u0), .val (.ref k1), .val (.double r1), .second, .val (.int (1 : Int32))] [(.int (0 : Int32)), (.ref pc)])) _
    exact kt
  have f108 := (f81.other W96 ne_pc_b66)
  obtain ⟨cl109, Ar109, qq109, S109, M109, H109, GG109⟩ := id f108
  have hin109 : ¬ ((0 : Int32) < 0 ∨ cl109.slots.size ≤ ((0 : Int32)).toNatClampNeg) := inb_of S109 ⟨by decide, by decide⟩
  have hat109 : cl109.slots[((0 : Int32)).toNatClampNeg]? = some (.ref k0) := Has.at H109 hin109 rfl
  have K110 : ∀ t, Steps p.tables e below (T106.setTop (mkF m 132 #[.val (.ref a0), .val (.ref a1), .val (.ref b3), .val (.ref b66), .val (.int (0 : Int32)), .val (.ref u0), .val (.ref k0), .val (.double r1), .second, .val (.int (1 : Int32))] [(.int (0 : Int32)), (.ref b3)])) t → Steps p.tables e below G0 t := by
    intro t kt
    refine K107 t ?_
    refine X106.aaload hx (j := (0 : Int32)) (v := (.ref k0)) (by rw [e106]; exact (Ar109).1) (State.isArrayOf_alike hZ.alike (Ar109).2.1) rfl (Ar109).2.2 hin109 hat109 (g := (mkF m 126 #[.val (.ref a0), .val (.ref a1), .val (.ref b3), .val (.ref b66), .val (.int (0 : Int32)), .val (.ref u0), .val (.ref k1), .val (.double r1), .second, .val (.int (1 : Int32))] [(.int (0 : Int32)), (.ref pc)])) rfl rfl (hb hby d6_126) _ ?_
    show Steps p.tables e below (T106.setTop (mkF m 127 #[.val (.ref a0), .val (.ref a1), .val (.ref b3), .val (.ref b66), .val (.int (0 : Int32)), .val (.ref u0), .val (.ref k1), .val (.double r1), .second, .val (.int (1 : Int32))] [(.ref k0)])) _
    refine XS.astore X106.here hx rfl (hb hby d6_127) rfl rfl (l' := #[.val (.ref a0), .val (.ref a1), .val (.ref b3), .val (.ref b66), .val (.int (0 : Int32)), .val (.ref u0), .val (.ref k0), .val (.double r1), .second, .val (.int (1 : Int32))]) rfl ?_
    show Steps p.tables e below (T106.setTop (mkF m 129 #[.val (.ref a0), .val (.ref a1), .val (.ref b3), .val (.ref b66), .val (.int (0 : Int32)), .val (.ref u0), .val (.ref k0), .val (.double r1), .second, .val (.int (1 : Int32))] [])) _
    refine XS.aloadN X106.here hx rfl (hb hby d6_129) rfl rfl ?_
    show Steps p.tables e below (T106.setTop (mkF m 130 #[.val (.ref a0), .val (.ref a1), .val (.ref b3), .val (.ref b66), .val (.int (0 : Int32)), .val (.ref u0), .val (.ref k0), .val (.double r1), .second, .val (.int (1 : Int32))] [(.ref b3)])) _
    refine XS.iload X106.here hx rfl (hb hby d6_130) rfl ?_
    show Steps p.tables e below (T106.setTop (mkF m 132 #[.val (.ref a0), .val (.ref a1), .val (.ref b3), .val (.ref b66), .val (.int (0 : Int32)), .val (.ref u0), .val (.ref k0), .val (.double r1), .second, .val (.int (1 : Int32))] [(.int (0 : Int32)), (.ref b3)])) _
    exact kt
  have f111 := (f84.other W96 ne_b3_b66)
  obtain ⟨cl112, Ar112, qq112, S112, M112, H112, GG112⟩ := id f111
  have hin112 : ¬ ((0 : Int32) < 0 ∨ cl112.slots.size ≤ ((0 : Int32)).toNatClampNeg) := inb_of S112 ⟨by decide, by decide⟩
  have hat112 : cl112.slots[((0 : Int32)).toNatClampNeg]? = some (.double r0) := Has.at H112 hin112 rfl
  have K113 : ∀ t, Steps p.tables e below (T106.setTop (mkF m 142 #[.val (.ref a0), .val (.ref a1), .val (.ref b3), .val (.ref b66), .val (.int (0 : Int32)), .val (.ref u0), .val (.ref k0), .val (.double r0), .second, .val (.int (1 : Int32))] [(.ref u0), (.int (1 : Int32))])) t → Steps p.tables e below G0 t := by
    intro t kt
    refine K110 t ?_
    refine X106.daload hx (j := (0 : Int32)) (v := (.double r0)) (by rw [e106]; exact (Ar112).1) (State.isArrayOf_alike hZ.alike (Ar112).2.1) (Ar112).2.2 hin112 hat112 (g := (mkF m 132 #[.val (.ref a0), .val (.ref a1), .val (.ref b3), .val (.ref b66), .val (.int (0 : Int32)), .val (.ref u0), .val (.ref k0), .val (.double r1), .second, .val (.int (1 : Int32))] [(.int (0 : Int32)), (.ref b3)])) rfl rfl (hb hby d6_132) _ ?_
    show Steps p.tables e below (T106.setTop (mkF m 133 #[.val (.ref a0), .val (.ref a1), .val (.ref b3), .val (.ref b66), .val (.int (0 : Int32)), .val (.ref u0), .val (.ref k0), .val (.double r1), .second, .val (.int (1 : Int32))] [(.double r0)])) _
    refine XS.dstore X106.here hx rfl (hb hby d6_133) rfl (l' := #[.val (.ref a0), .val (.ref a1), .val (.ref b3), .val (.ref b66), .val (.int (0 : Int32)), .val (.ref u0), .val (.ref k0), .val (.double r0), .second, .val (.int (1 : Int32))]) rfl ?_
    show Steps p.tables e below (T106.setTop (mkF m 135 #[.val (.ref a0), .val (.ref a1), .val (.ref b3), .val (.ref b66), .val (.int (0 : Int32)), .val (.ref u0), .val (.ref k0), .val (.double r0), .second, .val (.int (1 : Int32))] [])) _
    refine XS.iconst X106.here hx rfl (hb hby d6_135) ?_
    show Steps p.tables e below (T106.setTop (mkF m 136 #[.val (.ref a0), .val (.ref a1), .val (.ref b3), .val (.ref b66), .val (.int (0 : Int32)), .val (.ref u0), .val (.ref k0), .val (.double r0), .second, .val (.int (1 : Int32))] [(.int (1 : Int32))])) _
    refine XS.istore X106.here hx rfl (hb hby d6_136) rfl (l' := #[.val (.ref a0), .val (.ref a1), .val (.ref b3), .val (.ref b66), .val (.int (0 : Int32)), .val (.ref u0), .val (.ref k0), .val (.double r0), .second, .val (.int (1 : Int32))]) rfl ?_
    show Steps p.tables e below (T106.setTop (mkF m 138 #[.val (.ref a0), .val (.ref a1), .val (.ref b3), .val (.ref b66), .val (.int (0 : Int32)), .val (.ref u0), .val (.ref k0), .val (.double r0), .second, .val (.int (1 : Int32))] [])) _
    refine XS.iload X106.here hx rfl (hb hby d6_138) rfl ?_
    show Steps p.tables e below (T106.setTop (mkF m 140 #[.val (.ref a0), .val (.ref a1), .val (.ref b3), .val (.ref b66), .val (.int (0 : Int32)), .val (.ref u0), .val (.ref k0), .val (.double r0), .second, .val (.int (1 : Int32))] [(.int (1 : Int32))])) _
    refine XS.aload X106.here hx rfl (hb hby d6_140) rfl rfl ?_
    show Steps p.tables e below (T106.setTop (mkF m 142 #[.val (.ref a0), .val (.ref a1), .val (.ref b3), .val (.ref b66), .val (.int (0 : Int32)), .val (.ref u0), .val (.ref k0), .val (.double r0), .second, .val (.int (1 : Int32))] [(.ref u0), (.int (1 : Int32))])) _
    exact kt
  have f114 := ((f62.ext E66).other W96 ne_u0_b66)
  obtain ⟨cl115, Ar115, qq115, S115, M115, H115, GG115⟩ := id f114
  have K116 : ∀ t, Steps p.tables e below (T106.setTop (mkF m 152 #[.val (.ref a0), .val (.ref a1), .val (.ref b3), .val (.ref b66), .val (.int (0 : Int32)), .val (.ref u0), .val (.ref k0), .val (.double r0), .second, .val (.int (1 : Int32))] [(.int (1 : Int32)), (.ref k0), (.double r0)])) t → Steps p.tables e below G0 t := by
    intro t kt
    refine K113 t ?_
    refine X106.arraylength hx (by rw [e106]; exact (Ar115).1) (State.isArrayOf_alike hZ.alike (Ar115).2.1) (g := (mkF m 142 #[.val (.ref a0), .val (.ref a1), .val (.ref b3), .val (.ref b66), .val (.int (0 : Int32)), .val (.ref u0), .val (.ref k0), .val (.double r0), .second, .val (.int (1 : Int32))] [(.ref u0), (.int (1 : Int32))])) rfl rfl (hb hby d6_142) _ ?_
    rw [len_of S115 M115]
    show Steps p.tables e below (T106.setTop (mkF m 143 #[.val (.ref a0), .val (.ref a1), .val (.ref b3), .val (.ref b66), .val (.int (0 : Int32)), .val (.ref u0), .val (.ref k0), .val (.double r0), .second, .val (.int (1 : Int32))] [(.int (2 : Int32)), (.int (1 : Int32))])) _
    refine XS.icmpNo X106.here hx rfl (hb hby d6_143) rfl (tlt (by decide)).2.1 ?_
    show Steps p.tables e below (T106.setTop (mkF m 146 #[.val (.ref a0), .val (.ref a1), .val (.ref b3), .val (.ref b66), .val (.int (0 : Int32)), .val (.ref u0), .val (.ref k0), .val (.double r0), .second, .val (.int (1 : Int32))] [])) _
    refine XS.dload X106.here hx rfl (hb hby d6_146) rfl ?_
    show Steps p.tables e below (T106.setTop (mkF m 148 #[.val (.ref a0), .val (.ref a1), .val (.ref b3), .val (.ref b66), .val (.int (0 : Int32)), .val (.ref u0), .val (.ref k0), .val (.double r0), .second, .val (.int (1 : Int32))] [(.double r0)])) _
    refine XS.aload X106.here hx rfl (hb hby d6_148) rfl rfl ?_
    show Steps p.tables e below (T106.setTop (mkF m 150 #[.val (.ref a0), .val (.ref a1), .val (.ref b3), .val (.ref b66), .val (.int (0 : Int32)), .val (.ref u0), .val (.ref k0), .val (.double r0), .second, .val (.int (1 : Int32))] [(.ref k0), (.double r0)])) _
    refine XS.iload X106.here hx rfl (hb hby d6_150) rfl ?_
    show Steps p.tables e below (T106.setTop (mkF m 152 #[.val (.ref a0), .val (.ref a1), .val (.ref b3), .val (.ref b66), .val (.int (0 : Int32)), .val (.ref u0), .val (.ref k0), .val (.double r0), .second, .val (.int (1 : Int32))] [(.int (1 : Int32)), (.ref k0), (.double r0)])) _
    exact kt
  have f117 := ((f64.ext E66).other W96 ne_k0_b66)
  obtain ⟨cl118, Ar118, qq118, S118, M118, H118, GG118⟩ := id f117
  have hin118 : ¬ ((1 : Int32) < 0 ∨ cl118.slots.size ≤ ((1 : Int32)).toNatClampNeg) := inb_of S118 ⟨by decide, by decide⟩
  have hat118 : cl118.slots[((1 : Int32)).toNatClampNeg]? = some (.double c01) := Has.at H118 hin118 rfl
  have K119 : ∀ t, Steps p.tables e below (T106.setTop (mkF m 158 #[.val (.ref a0), .val (.ref a1), .val (.ref b3), .val (.ref b66), .val (.int (0 : Int32)), .val (.ref u0), .val (.ref k0), .val (.double r0), .second, .val (.int (1 : Int32))] [(.int (1 : Int32)), (.ref u0), (.ref b66), (.double c01), (.double r0)])) t → Steps p.tables e below G0 t := by
    intro t kt
    refine K116 t ?_
    refine X106.daload hx (j := (1 : Int32)) (v := (.double c01)) (by rw [e106]; exact (Ar118).1) (State.isArrayOf_alike hZ.alike (Ar118).2.1) (Ar118).2.2 hin118 hat118 (g := (mkF m 152 #[.val (.ref a0), .val (.ref a1), .val (.ref b3), .val (.ref b66), .val (.int (0 : Int32)), .val (.ref u0), .val (.ref k0), .val (.double r0), .second, .val (.int (1 : Int32))] [(.int (1 : Int32)), (.ref k0), (.double r0)])) rfl rfl (hb hby d6_152) _ ?_
    show Steps p.tables e below (T106.setTop (mkF m 153 #[.val (.ref a0), .val (.ref a1), .val (.ref b3), .val (.ref b66), .val (.int (0 : Int32)), .val (.ref u0), .val (.ref k0), .val (.double r0), .second, .val (.int (1 : Int32))] [(.double c01), (.double r0)])) _
    refine XS.aloadN X106.here hx rfl (hb hby d6_153) rfl rfl ?_
    show Steps p.tables e below (T106.setTop (mkF m 154 #[.val (.ref a0), .val (.ref a1), .val (.ref b3), .val (.ref b66), .val (.int (0 : Int32)), .val (.ref u0), .val (.ref k0), .val (.double r0), .second, .val (.int (1 : Int32))] [(.ref b66), (.double c01), (.double r0)])) _
    refine XS.aload X106.here hx rfl (hb hby d6_154) rfl rfl ?_
    show Steps p.tables e below (T106.setTop (mkF m 156 #[.val (.ref a0), .val (.ref a1), .val (.ref b3), .val (.ref b66), .val (.int (0 : Int32)), .val (.ref u0), .val (.ref k0), .val (.double r0), .second, .val (.int (1 : Int32))] [(.ref u0), (.ref b66), (.double c01), (.double r0)])) _
    refine XS.iload X106.here hx rfl (hb hby d6_156) rfl ?_
    show Steps p.tables e below (T106.setTop (mkF m 158 #[.val (.ref a0), .val (.ref a1), .val (.ref b3), .val (.ref b66), .val (.int (0 : Int32)), .val (.ref u0), .val (.ref k0), .val (.double r0), .second, .val (.int (1 : Int32))] [(.int (1 : Int32)), (.ref u0), (.ref b66), (.double c01), (.double r0)])) _
    exact kt
  obtain ⟨cl120, Ar120, qq120, S120, M120, H120, GG120⟩ := id f114
  have hin120 : ¬ ((1 : Int32) < 0 ∨ cl120.slots.size ≤ ((1 : Int32)).toNatClampNeg) := inb_of S120 ⟨by decide, by decide⟩
  have hat120 : cl120.slots[((1 : Int32)).toNatClampNeg]? = some (.int (0 : Int32)) := Has.at H120 hin120 rfl
  have K121 : ∀ t, Steps p.tables e below (T106.setTop (mkF m 159 #[.val (.ref a0), .val (.ref a1), .val (.ref b3), .val (.ref b66), .val (.int (0 : Int32)), .val (.ref u0), .val (.ref k0), .val (.double r0), .second, .val (.int (1 : Int32))] [(.int (0 : Int32)), (.ref b66), (.double c01), (.double r0)])) t → Steps p.tables e below G0 t := by
    intro t kt
    refine K119 t ?_
    refine X106.iaload hx (j := (1 : Int32)) (v := (.int (0 : Int32))) (by rw [e106]; exact (Ar120).1) (State.isArrayOf_alike hZ.alike (Ar120).2.1) (Ar120).2.2 hin120 hat120 (g := (mkF m 158 #[.val (.ref a0), .val (.ref a1), .val (.ref b3), .val (.ref b66), .val (.int (0 : Int32)), .val (.ref u0), .val (.ref k0), .val (.double r0), .second, .val (.int (1 : Int32))] [(.int (1 : Int32)), (.ref u0), (.ref b66), (.double c01), (.double r0)])) rfl rfl (hb hby d6_158) _ ?_
    show Steps p.tables e below (T106.setTop (mkF m 159 #[.val (.ref a0), .val (.ref a1), .val (.ref b3), .val (.ref b66), .val (.int (0 : Int32)), .val (.ref u0), .val (.ref k0), .val (.double r0), .second, .val (.int (1 : Int32))] [(.int (0 : Int32)), (.ref b66), (.double c01), (.double r0)])) _
    exact kt
  obtain ⟨cl122, Ar122, qq122, S122, M122, H122, GG122⟩ := id VL96
  have hin122 : ¬ ((0 : Int32) < 0 ∨ cl122.slots.size ≤ ((0 : Int32)).toNatClampNeg) := inb_of S122 ⟨by decide, by decide⟩
  have hat122 : cl122.slots[((0 : Int32)).toNatClampNeg]? = some (.double (FP.ddiv r1 dd)) := Has.at H122 hin122 rfl
  have K123 : ∀ t, Steps p.tables e below (T106.setTop (mkF m 167 #[.val (.ref a0), .val (.ref a1), .val (.ref b3), .val (.ref b66), .val (.int (0 : Int32)), .val (.ref u0), .val (.ref k0), .val (.double (FP.dsub r0 (FP.dmul c01 (FP.ddiv r1 dd)))), .second, .val (.int ((1 : Int32) + (1 : Int32)))] [])) t → Steps p.tables e below G0 t := by
    intro t kt
    refine K121 t ?_
    refine X106.daload hx (j := (0 : Int32)) (v := (.double (FP.ddiv r1 dd))) (by rw [e106]; exact (Ar122).1) (State.isArrayOf_alike hZ.alike (Ar122).2.1) (Ar122).2.2 hin122 hat122 (g := (mkF m 159 #[.val (.ref a0), .val (.ref a1), .val (.ref b3), .val (.ref b66), .val (.int (0 : Int32)), .val (.ref u0), .val (.ref k0), .val (.double r0), .second, .val (.int (1 : Int32))] [(.int (0 : Int32)), (.ref b66), (.double c01), (.double r0)])) rfl rfl (hb hby d6_159) _ ?_
    show Steps p.tables e below (T106.setTop (mkF m 160 #[.val (.ref a0), .val (.ref a1), .val (.ref b3), .val (.ref b66), .val (.int (0 : Int32)), .val (.ref u0), .val (.ref k0), .val (.double r0), .second, .val (.int (1 : Int32))] [(.double (FP.ddiv r1 dd)), (.double c01), (.double r0)])) _
    refine XS.dmulS X106.here hx rfl (hb hby d6_160) rfl hn2 rfl ?_
    show Steps p.tables e below (T106.setTop (mkF m 161 #[.val (.ref a0), .val (.ref a1), .val (.ref b3), .val (.ref b66), .val (.int (0 : Int32)), .val (.ref u0), .val (.ref k0), .val (.double r0), .second, .val (.int (1 : Int32))] [(.double (FP.dmul c01 (FP.ddiv r1 dd))), (.double r0)])) _
    refine XS.dsubS X106.here hx rfl (hb hby d6_161) rfl hn3 rfl ?_
    show Steps p.tables e below (T106.setTop (mkF m 162 #[.val (.ref a0), .val (.ref a1), .val (.ref b3), .val (.ref b66), .val (.int (0 : Int32)), .val (.ref u0), .val (.ref k0), .val (.double r0), .second, .val (.int (1 : Int32))] [(.double (FP.dsub r0 (FP.dmul c01 (FP.ddiv r1 dd))))])) _
    refine XS.dstore X106.here hx rfl (hb hby d6_162) rfl (l' := #[.val (.ref a0), .val (.ref a1), .val (.ref b3), .val (.ref b66), .val (.int (0 : Int32)), .val (.ref u0), .val (.ref k0), .val (.double (FP.dsub r0 (FP.dmul c01 (FP.ddiv r1 dd)))), .second, .val (.int (1 : Int32))]) rfl ?_
    show Steps p.tables e below (T106.setTop (mkF m 164 #[.val (.ref a0), .val (.ref a1), .val (.ref b3), .val (.ref b66), .val (.int (0 : Int32)), .val (.ref u0), .val (.ref k0), .val (.double (FP.dsub r0 (FP.dmul c01 (FP.ddiv r1 dd)))), .second, .val (.int (1 : Int32))] [])) _
    refine XS.iinc X106.here hx rfl (hb hby d6_164) rfl (l' := #[.val (.ref a0), .val (.ref a1), .val (.ref b3), .val (.ref b66), .val (.int (0 : Int32)), .val (.ref u0), .val (.ref k0), .val (.double (FP.dsub r0 (FP.dmul c01 (FP.ddiv r1 dd)))), .second, .val (.int ((1 : Int32) + (1 : Int32)))]) rfl ?_
    show Steps p.tables e below (T106.setTop (mkF m 167 #[.val (.ref a0), .val (.ref a1), .val (.ref b3), .val (.ref b66), .val (.int (0 : Int32)), .val (.ref u0), .val (.ref k0), .val (.double (FP.dsub r0 (FP.dmul c01 (FP.ddiv r1 dd)))), .second, .val (.int ((1 : Int32) + (1 : Int32)))] [])) _
    exact kt
  rw [show ((1 : Int32) + (1 : Int32)) = (2 : Int32) from by decide] at K123
  have K124 : ∀ t, Steps p.tables e below (T106.setTop (mkF m 142 #[.val (.ref a0), .val (.ref a1), .val (.ref b3), .val (.ref b66), .val (.int (0 : Int32)), .val (.ref u0), .val (.ref k0), .val (.double (FP.dsub r0 (FP.dmul c01 (FP.ddiv r1 dd)))), .second, .val (.int (2 : Int32))] [(.ref u0), (.int (2 : Int32))])) t → Steps p.tables e below G0 t := by
    intro t kt
    refine K123 t ?_
    refine XS.goto X106.here hx rfl (pc0 := 167) (pc' := 138) rfl (hb hby d6_167) (by decide) (by decide) ?_
    show Steps p.tables e below (T106.setTop (mkF m 138 #[.val (.ref a0), .val (.ref a1), .val (.ref b3), .val (.ref b66), .val (.int (0 : Int32)), .val (.ref u0), .val (.ref k0), .val (.double (FP.dsub r0 (FP.dmul c01 (FP.ddiv r1 dd)))), .second, .val (.int (2 : Int32))] [])) _
    refine XS.iload X106.here hx rfl (hb hby d6_138) rfl ?_
    show Steps p.tables e below (T106.setTop (mkF m 140 #[.val (.ref a0), .val (.ref a1), .val (.ref b3), .val (.ref b66), .val (.int (0 : Int32)), .val (.ref u0), .val (.ref k0), .val (.double (FP.dsub r0 (FP.dmul c01 (FP.ddiv r1 dd)))), .second, .val (.int (2 : Int32))] [(.int (2 : Int32))])) _
    refine XS.aload X106.here hx rfl (hb hby d6_140) rfl rfl ?_
    show Steps p.tables e below (T106.setTop (mkF m 142 #[.val (.ref a0), .val (.ref a1), .val (.ref b3), .val (.ref b66), .val (.int (0 : Int32)), .val (.ref u0), .val (.ref k0), .val (.double (FP.dsub r0 (FP.dmul c01 (FP.ddiv r1 dd)))), .second, .val (.int (2 : Int32))] [(.ref u0), (.int (2 : Int32))])) _
    exact kt
  obtain ⟨cl125, Ar125, qq125, S125, M125, H125, GG125⟩ := id f114
  have K126 : ∀ t, Steps p.tables e below (T106.setTop (mkF m 174 #[.val (.ref a0), .val (.ref a1), .val (.ref b3), .val (.ref b66), .val (.int (0 : Int32)), .val (.ref u0), .val (.ref k0), .val (.double (FP.dsub r0 (FP.dmul c01 (FP.ddiv r1 dd)))), .second, .val (.int (2 : Int32))] [(.int (0 : Int32)), (.ref u0), (.ref b66)])) t → Steps p.tables e below G0 t := by
    intro t kt
    refine K124 t ?_
    refine X106.arraylength hx (by rw [e106]; exact (Ar125).1) (State.isArrayOf_alike hZ.alike (Ar125).2.1) (g := (mkF m 142 #[.val (.ref a0), .val (.ref a1), .val (.ref b3), .val (.ref b66), .val (.int (0 : Int32)), .val (.ref u0), .val (.ref k0), .val (.double (FP.dsub r0 (FP.dmul c01 (FP.ddiv r1 dd)))), .second, .val (.int (2 : Int32))] [(.ref u0), (.int (2 : Int32))])) rfl rfl (hb hby d6_142) _ ?_
    rw [len_of S125 M125]
    show Steps p.tables e below (T106.setTop (mkF m 143 #[.val (.ref a0), .val (.ref a1), .val (.ref b3), .val (.ref b66), .val (.int (0 : Int32)), .val (.ref u0), .val (.ref k0), .val (.double (FP.dsub r0 (FP.dmul c01 (FP.ddiv r1 dd)))), .second, .val (.int (2 : Int32))] [(.int (2 : Int32)), (.int (2 : Int32))])) _
    refine XS.icmpYes X106.here hx rfl (pc0 := 143) (pc' := 170) rfl (hb hby d6_143) rfl (flt (by decide)).2.1 (by decide) (by decide) ?_
    show Steps p.tables e below (T106.setTop (mkF m 170 #[.val (.ref a0), .val (.ref a1), .val (.ref b3), .val (.ref b66), .val (.int (0 : Int32)), .val (.ref u0), .val (.ref k0), .val (.double (FP.dsub r0 (FP.dmul c01 (FP.ddiv r1 dd)))), .second, .val (.int (2 : Int32))] [])) _
    refine XS.aloadN X106.here hx rfl (hb hby d6_170) rfl rfl ?_
    show Steps p.tables e below (T106.setTop (mkF m 171 #[.val (.ref a0), .val (.ref a1), .val (.ref b3), .val (.ref b66), .val (.int (0 : Int32)), .val (.ref u0), .val (.ref k0), .val (.double (FP.dsub r0 (FP.dmul c01 (FP.ddiv r1 dd)))), .second, .val (.int (2 : Int32))] [(.ref b66)])) _
    refine XS.aload X106.here hx rfl (hb hby d6_171) rfl rfl ?_
    show Steps p.tables e below (T106.setTop (mkF m 173 #[.val (.ref a0), .val (.ref a1), .val (.ref b3), .val (.ref b66), .val (.int (0 : Int32)), .val (.ref u0), .val (.ref k0), .val (.double (FP.dsub r0 (FP.dmul c01 (FP.ddiv r1 dd)))), .second, .val (.int (2 : Int32))] [(.ref u0), (.ref b66)])) _
    refine XS.iconst X106.here hx rfl (hb hby d6_173) ?_
    show Steps p.tables e below (T106.setTop (mkF m 174 #[.val (.ref a0), .val (.ref a1), .val (.ref b3), .val (.ref b66), .val (.int (0 : Int32)), .val (.ref u0), .val (.ref k0), .val (.double (FP.dsub r0 (FP.dmul c01 (FP.ddiv r1 dd)))), .second, .val (.int (2 : Int32))] [(.int (0 : Int32)), (.ref u0), (.ref b66)])) _
    exact kt
  obtain ⟨cl127, Ar127, qq127, S127, M127, H127, GG127⟩ := id f114
  have hin127 : ¬ ((0 : Int32) < 0 ∨ cl127.slots.size ≤ ((0 : Int32)).toNatClampNeg) := inb_of S127 ⟨by decide, by decide⟩
  have hat127 : cl127.slots[((0 : Int32)).toNatClampNeg]? = some (.int (1 : Int32)) := Has.at H127 hin127 rfl
  have K128 : ∀ t, Steps p.tables e below (T106.setTop (mkF m 180 #[.val (.ref a0), .val (.ref a1), .val (.ref b3), .val (.ref b66), .val (.int (0 : Int32)), .val (.ref u0), .val (.ref k0), .val (.double (FP.dsub r0 (FP.dmul c01 (FP.ddiv r1 dd)))), .second, .val (.int (2 : Int32))] [(.int (0 : Int32)), (.ref k0), (.double (FP.dsub r0 (FP.dmul c01 (FP.ddiv r1 dd)))), (.int (1 : Int32)), (.ref b66)])) t → Steps p.tables e below G0 t := by
    intro t kt
    refine K126 t ?_
    refine X106.iaload hx (j := (0 : Int32)) (v := (.int (1 : Int32))) (by rw [e106]; exact (Ar127).1) (State.isArrayOf_alike hZ.alike (Ar127).2.1) (Ar127).2.2 hin127 hat127 (g := (mkF m 174 #[.val (.ref a0), .val (.ref a1), .val (.ref b3), .val (.ref b66), .val (.int (0 : Int32)), .val (.ref u0), .val (.ref k0), .val (.double (FP.dsub r0 (FP.dmul c01 (FP.ddiv r1 dd)))), .second, .val (.int (2 : Int32))] [(.int (0 : Int32)), (.ref u0), (.ref b66)])) rfl rfl (hb hby d6_174) _ ?_
    show Steps p.tables e below (T106.setTop (mkF m 175 #[.val (.ref a0), .val (.ref a1), .val (.ref b3), .val (.ref b66), .val (.int (0 : Int32)), .val (.ref u0), .val (.ref k0), .val (.double (FP.dsub r0 (FP.dmul c01 (FP.ddiv r1 dd)))), .second, .val (.int (2 : Int32))] [(.int (1 : Int32)), (.ref b66)])) _
    refine XS.dload X106.here hx rfl (hb hby d6_175) rfl ?_
    show Steps p.tables e below (T106.setTop (mkF m 177 #[.val (.ref a0), .val (.ref a1), .val (.ref b3), .val (.ref b66), .val (.int (0 : Int32)), .val (.ref u0), .val (.ref k0), .val (.double (FP.dsub r0 (FP.dmul c01 (FP.ddiv r1 dd)))), .second, .val (.int (2 : Int32))] [(.double (FP.dsub r0 (FP.dmul c01 (FP.ddiv r1 dd)))), (.int (1 : Int32)), (.ref b66)])) _
    refine XS.aload X106.here hx rfl (hb hby d6_177) rfl rfl ?_
    show Steps p.tables e below (T106.setTop (mkF m 179 #[.val (.ref a0), .val (.ref a1), .val (.ref b3), .val (.ref b66), .val (.int (0 : Int32)), .val (.ref u0), .val (.ref k0), .val (.double (FP.dsub r0 (FP.dmul c01 (FP.ddiv r1 dd)))), .second, .val (.int (2 : Int32))] [(.ref k0), (.double (FP.dsub r0 (FP.dmul c01 (FP.ddiv r1 dd)))), (.int (1 : Int32)), (.ref b66)])) _
    refine XS.iconst X106.here hx rfl (hb hby d6_179) ?_
    show Steps p.tables e below (T106.setTop (mkF m 180 #[.val (.ref a0), .val (.ref a1), .val (.ref b3), .val (.ref b66), .val (.int (0 : Int32)), .val (.ref u0), .val (.ref k0), .val (.double (FP.dsub r0 (FP.dmul c01 (FP.ddiv r1 dd)))), .second, .val (.int (2 : Int32))] [(.int (0 : Int32)), (.ref k0), (.double (FP.dsub r0 (FP.dmul c01 (FP.ddiv r1 dd)))), (.int (1 : Int32)), (.ref b66)])) _
    exact kt
  obtain ⟨cl129, Ar129, qq129, S129, M129, H129, GG129⟩ := id f117
  have hin129 : ¬ ((0 : Int32) < 0 ∨ cl129.slots.size ≤ ((0 : Int32)).toNatClampNeg) := inb_of S129 ⟨by decide, by decide⟩
  have hat129 : cl129.slots[((0 : Int32)).toNatClampNeg]? = some (.double c00) := Has.at H129 hin129 rfl
  have K130 : ∀ t, Steps p.tables e below (T106.setTop (mkF m 182 #[.val (.ref a0), .val (.ref a1), .val (.ref b3), .val (.ref b66), .val (.int (0 : Int32)), .val (.ref u0), .val (.ref k0), .val (.double (FP.dsub r0 (FP.dmul c01 (FP.ddiv r1 dd)))), .second, .val (.int (2 : Int32))] [(.double (FP.ddiv (FP.dsub r0 (FP.dmul c01 (FP.ddiv r1 dd))) c00)), (.int (1 : Int32)), (.ref b66)])) t → Steps p.tables e below G0 t := by
    intro t kt
    refine K128 t ?_
    refine X106.daload hx (j := (0 : Int32)) (v := (.double c00)) (by rw [e106]; exact (Ar129).1) (State.isArrayOf_alike hZ.alike (Ar129).2.1) (Ar129).2.2 hin129 hat129 (g := (mkF m 180 #[.val (.ref a0), .val (.ref a1), .val (.ref b3), .val (.ref b66), .val (.int (0 : Int32)), .val (.ref u0), .val (.ref k0), .val (.double (FP.dsub r0 (FP.dmul c01 (FP.ddiv r1 dd)))), .second, .val (.int (2 : Int32))] [(.int (0 : Int32)), (.ref k0), (.double (FP.dsub r0 (FP.dmul c01 (FP.ddiv r1 dd)))), (.int (1 : Int32)), (.ref b66)])) rfl rfl (hb hby d6_180) _ ?_
    show Steps p.tables e below (T106.setTop (mkF m 181 #[.val (.ref a0), .val (.ref a1), .val (.ref b3), .val (.ref b66), .val (.int (0 : Int32)), .val (.ref u0), .val (.ref k0), .val (.double (FP.dsub r0 (FP.dmul c01 (FP.ddiv r1 dd)))), .second, .val (.int (2 : Int32))] [(.double c00), (.double (FP.dsub r0 (FP.dmul c01 (FP.ddiv r1 dd)))), (.int (1 : Int32)), (.ref b66)])) _
    refine XS.ddivS X106.here hx rfl (hb hby d6_181) rfl hn4 rfl ?_
    show Steps p.tables e below (T106.setTop (mkF m 182 #[.val (.ref a0), .val (.ref a1), .val (.ref b3), .val (.ref b66), .val (.int (0 : Int32)), .val (.ref u0), .val (.ref k0), .val (.double (FP.dsub r0 (FP.dmul c01 (FP.ddiv r1 dd)))), .second, .val (.int (2 : Int32))] [(.double (FP.ddiv (FP.dsub r0 (FP.dmul c01 (FP.ddiv r1 dd))) c00)), (.int (1 : Int32)), (.ref b66)])) _
    exact kt
  obtain ⟨cl131, Ar131, qq131, S131, M131, H131, GG131⟩ := id VL96
  have hin131 : ¬ ((1 : Int32) < 0 ∨ cl131.slots.size ≤ ((1 : Int32)).toNatClampNeg) := inb_of S131 ⟨by decide, by decide⟩
  obtain ⟨T132, h132, X132, e132, W132, st132⟩ := stD X106 hx hZ e106 Ar131 (j := (1 : Int32)) hin131 (g := (mkF m 182 #[.val (.ref a0), .val (.ref a1), .val (.ref b3), .val (.ref b66), .val (.int (0 : Int32)), .val (.ref u0), .val (.ref k0), .val (.double (FP.dsub r0 (FP.dmul c01 (FP.ddiv r1 dd)))), .second, .val (.int (2 : Int32))] [(.double (FP.ddiv (FP.dsub r0 (FP.dmul c01 (FP.ddiv r1 dd))) c00)), (.int (1 : Int32)), (.ref b66)])) rfl rfl (hb hby d6_182)
  have K132 : ∀ t, Steps p.tables e below (T132.setTop (mkF m 183 #[.val (.ref a0), .val (.ref a1), .val (.ref b3), .val (.ref b66), .val (.int (0 : Int32)), .val (.ref u0), .val (.ref k0), .val (.double (FP.dsub r0 (FP.dmul c01 (FP.ddiv r1 dd)))), .second, .val (.int (2 : Int32))] [])) t → Steps p.tables e below G0 t := fun t kt => K130 t (st132 _ kt)
  have Z132 : n0 ≤ h132.size := Nat.le_trans Z96 (Keep.of_wr W132).1
  have VL132 : Arv Z h132 b66 k66 .double (2 : Int32) [(.double (FP.ddiv r1 dd)), (.double (FP.ddiv (FP.dsub r0 (FP.dmul c01 (FP.ddiv r1 dd))) c00))] (.double 0) := Arv.set Ar131 qq131 S131 M131 H131 GG131 rfl W132 1 rfl (Nat.le_of_ble_eq_true rfl)
  have N132 := Fr.snoc X132 N96 gn66
  have K133 : ∀ t, Steps p.tables e below (T132.setTop (mkF m 186 #[.val (.ref a0), .val (.ref a1), .val (.ref b3), .val (.ref b66), .val (.int ((0 : Int32) + (-1 : Int32))), .val (.ref u0), .val (.ref k0), .val (.double (FP.dsub r0 (FP.dmul c01 (FP.ddiv r1 dd)))), .second, .val (.int (2 : Int32))] [])) t → Steps p.tables e below G0 t := by
    intro t kt
    refine K132 t ?_
    refine XS.iinc X132.here hx rfl (hb hby d6_183) rfl (l' := #[.val (.ref a0), .val (.ref a1), .val (.ref b3), .val (.ref b66), .val (.int ((0 : Int32) + (-1 : Int32))), .val (.ref u0), .val (.ref k0), .val (.double (FP.dsub r0 (FP.dmul c01 (FP.ddiv r1 dd)))), .second, .val (.int (2 : Int32))]) rfl ?_
    show Steps p.tables e below (T132.setTop (mkF m 186 #[.val (.ref a0), .val (.ref a1), .val (.ref b3), .val (.ref b66), .val (.int ((0 : Int32) + (-1 : Int32))), .val (.ref u0), .val (.ref k0), .val (.double (FP.dsub r0 (FP.dmul c01 (FP.ddiv r1 dd)))), .second, .val (.int (2 : Int32))] [])) _
    exact kt
  rw [show ((0 : Int32) + (-1 : Int32)) = (-1 : Int32) from by decide] at K133
  have K134 : ∀ t, Steps p.tables e below (T132.setTop (mkF m 190 #[.val (.ref a0), .val (.ref a1), .val (.ref b3), .val (.ref b66), .val (.int (-1 : Int32)), .val (.ref u0), .val (.ref k0), .val (.double (FP.dsub r0 (FP.dmul c01 (FP.ddiv r1 dd)))), .second, .val (.int (2 : Int32))] [(.ref b66)])) t → Steps p.tables e below G0 t := by
    intro t kt
    refine K133 t ?_
    refine XS.goto X132.here hx rfl (pc0 := 186) (pc' := 106) rfl (hb hby d6_186) (by decide) (by decide) ?_
    show Steps p.tables e below (T132.setTop (mkF m 106 #[.val (.ref a0), .val (.ref a1), .val (.ref b3), .val (.ref b66), .val (.int (-1 : Int32)), .val (.ref u0), .val (.ref k0), .val (.double (FP.dsub r0 (FP.dmul c01 (FP.ddiv r1 dd)))), .second, .val (.int (2 : Int32))] [])) _
    refine XS.iload X132.here hx rfl (hb hby d6_106) rfl ?_
    show Steps p.tables e below (T132.setTop (mkF m 108 #[.val (.ref a0), .val (.ref a1), .val (.ref b3), .val (.ref b66), .val (.int (-1 : Int32)), .val (.ref u0), .val (.ref k0), .val (.double (FP.dsub r0 (FP.dmul c01 (FP.ddiv r1 dd)))), .second, .val (.int (2 : Int32))] [(.int (-1 : Int32))])) _
    refine XS.ifYes X132.here hx rfl (pc0 := 108) (pc' := 189) rfl (hb hby d6_108) rfl ((if0 _ _).trans (tlt (by decide)).1) (by decide) (by decide) ?_
    show Steps p.tables e below (T132.setTop (mkF m 189 #[.val (.ref a0), .val (.ref a1), .val (.ref b3), .val (.ref b66), .val (.int (-1 : Int32)), .val (.ref u0), .val (.ref k0), .val (.double (FP.dsub r0 (FP.dmul c01 (FP.ddiv r1 dd)))), .second, .val (.int (2 : Int32))] [])) _
    refine XS.aloadN X132.here hx rfl (hb hby d6_189) rfl rfl ?_
    show Steps p.tables e below (T132.setTop (mkF m 190 #[.val (.ref a0), .val (.ref a1), .val (.ref b3), .val (.ref b66), .val (.int (-1 : Int32)), .val (.ref u0), .val (.ref k0), .val (.double (FP.dsub r0 (FP.dmul c01 (FP.ddiv r1 dd)))), .second, .val (.int (2 : Int32))] [(.ref b66)])) _
    exact kt
  have KQ135_0 := Keep.refl h0 []
  have sz135_3 := Nat.le_trans KQ135_0.1 (Nat.le_of_eq g3.symm)
  have KQ135_1 := KQ135_0.ext E3
  have KQ135_2 := KQ135_1.wr W24 (Or.inr sz135_3)
  have KQ135_3 := KQ135_2.wr W46 (Or.inr sz135_3)
  have sz135_66 := Nat.le_trans KQ135_3.1 (Nat.le_of_eq g66.symm)
  have KQ135_4 := KQ135_3.ext E66
  have KQ135_5 := KQ135_4.wr W96 (Or.inr sz135_66)
  have KQ135_6 := KQ135_5.wr W132 (Or.inr sz135_66)
  obtain ⟨fs, hr, hrun, hended, hW, hsame⟩ := X132.leave (v := some (.ref b66)) (fun h => by rw [Bd.returns] at h; cases h)
  refine ⟨_, _, ?_, hrun, hended, _, _, rfl, ?_, ⟨_, rfl⟩, hW, hsame.mono (by decide) (by decide)⟩
  · rw [← hG0]
    refine K134 _ ?_
    exact retOut X132 hx (t := (.array .double)) Bd.returns rfl (Or.inr (Or.inr (Or.inr (Or.inr ⟨rfl, rfl, rfl⟩)))) (hb hby d6_190) hr
  · show Q6_01 Z a0 a1 rb ml ln pe pu pc u0 u1 k0 k1 kr km kl ke ku kc kq kh1 kh2 kh3 kh4 rd lrb lml r0 r1 c00 c01 dd h0 n0 _ T132.heap _
    rw [e132]
    exact ⟨b66, _, rfl, N132, KQ135_6, VL132⟩
theorem ef_rm6_10 (m : MethodId) (a0 : Addr) (a1 : Addr) : entryFrame m #[(.ref a0), (.ref a1)] 10 = (mkF m 0 #[.val (.ref a0), .val (.ref a1), .unset, .unset, .unset, .unset, .unset, .unset, .unset, .unset] []) := by first | (simp [entryFrame, mkF, argsToLocals, Value.category]; done) | rfl
def Q6_10 (Z : State) (a0 : Addr) (a1 : Addr) (rb : Addr) (ml : Addr) (ln : Addr) (pe : Addr) (pu : Addr) (pc : Addr) (u0 : Addr) (u1 : Addr) (k0 : Addr) (k1 : Addr) (kr : ClassId) (km : ClassId) (kl : ClassId) (ke : ClassId) (ku : ClassId) (kc : ClassId) (kq : ClassId) (kh1 : ClassId) (kh2 : ClassId) (kh3 : ClassId) (kh4 : ClassId) (rd : Int64) (lrb : List Value) (lml : List Value) (r0 : UInt64) (r1 : UInt64) (c00 : UInt64) (c01 : UInt64) (dd : UInt64) (h0 : Heap) (n0 : Nat) (v : Option Value) (h : Heap) (L : List Loc) : Prop := ∃ (r : Addr) (kx : ClassId), v = some (.ref r) ∧ Fr n0 L ∧ Keep h0 h [] ∧ Arv Z h r kx .double (2 : Int32) [(.double (FP.ddiv (FP.dsub r1 (FP.dmul c01 (FP.ddiv r0 dd))) c00)), (.double (FP.ddiv r0 dd))] (.double 0)
set_option maxRecDepth 65536 in
set_option maxHeartbeats 40000000 in
theorem rm6_10 (l : Launch) (Z : State) (aa : Array Value) (hw : ∀ d ∈ tables_1, d.before aa Z = true) (ws : List Jvm.Cond) (a0 : Addr) (a1 : Addr) (rb : Addr) (ml : Addr) (ln : Addr) (pe : Addr) (pu : Addr) (pc : Addr) (u0 : Addr) (u1 : Addr) (k0 : Addr) (k1 : Addr) (kr : ClassId) (km : ClassId) (kl : ClassId) (ke : ClassId) (ku : ClassId) (kc : ClassId) (kq : ClassId) (kh1 : ClassId) (kh2 : ClassId) (kh3 : ClassId) (kh4 : ClassId) (rd : Int64) (lrb : List Value) (lml : List Value) (r0 : UInt64) (r1 : UInt64) (c00 : UInt64) (c01 : UInt64) (dd : UInt64) (h0 : Heap) (n0 : Nat) (Z0 : n0 ≤ h0.size) (FA : own_Fac Z h0 a0 rb ml ln pe pu pc kr km kl ke ku kc (2 : Int32) (2 : Int32) rd lrb lml [(.int (0 : Int32)), (.int (0 : Int32))] [(.int (1 : Int32)), (.int (0 : Int32))] [(.ref u0), (.ref u1)] [(.ref k0), (.ref k1)]) (V_a1 : Arv Z h0 a1 kq .double (2 : Int32) [(.double r0), (.double r1)] (.double 0)) (V_u0 : Arv Z h0 u0 kh1 .int (2 : Int32) [(.int (0 : Int32)), (.int (1 : Int32))] (.int (0 : Int32))) (V_u1 : Arv Z h0 u1 kh2 .int (1 : Int32) [(.int (1 : Int32))] (.int (0 : Int32))) (V_k0 : Arv Z h0 k0 kh3 .double (2 : Int32) [(.double c00), (.double c01)] (.double 0)) (V_k1 : Arv Z h0 k1 kh4 .double (1 : Int32) [(.double dd)] (.double 0)) (hn1 : NoNaN64 (FP.ddiv r0 dd)) (hn2 : NoNaN64 (FP.dmul c01 (FP.ddiv r0 dd))) (hn3 : NoNaN64 (FP.dsub r1 (FP.dmul c01 (FP.ddiv r0 dd)))) (hn4 : NoNaN64 (FP.ddiv (FP.dsub r1 (FP.dmul c01 (FP.ddiv r0 dd))) c00)) :
    MetFree l (⟨"com/example/sondage/sondage/inference/Factorization", "solve", "([D)[D"⟩ : MethodName) (head1 (Jvm.Cond.code (⟨"com/example/sondage/sondage/inference/Factorization", "solve", "([D)[D"⟩ : MethodName) prog_18_method_7_code 10 (some (.array .double)) :: ws) ({ frames := 0, cells := 2, slots := 4, locals := 0 } : Room)) (fun a U => a = #[(.ref a0), (.ref a1)] ∧ Z.Warmed39 U.vm ∧ U.heap = h0) (fun _ _ _ _ _ => True) (fun _ U o U' => ∃ v L, o = .returned v ∧ Q6_10 Z a0 a1 rb ml ln pe pu pc u0 u1 k0 k1 kr km kl ke ku kc kq kh1 kh2 kh3 kh4 rd lrb lml r0 r1 c00 c01 dd h0 n0 v U'.heap L ∧ FrameEnd U o U' L ({ frames := 0, cells := 2, slots := 4, locals := 0 } : Room).cells ({ frames := 0, cells := 2, slots := 4, locals := 0 } : Room).slots) := by
  refine MetFree.of_bodySF (plainFor_of_name pn_com_example_sondage_sondage_inference_Factorization) hisR ?_
  intro p e s m args below meth c s₁ Bd hml0 hP hK
  obtain ⟨rfl, hZ, hh⟩ := hP
  have hx := Bd.exec
  have hby := Bd.bytes
  have hml : c.maxLocals = 10 := hml0
  have hown : s.vm.findClass "com/example/sondage/sondage/inference/Factorization" = some m.cls := findClass_of_methodNamed Bd.named
  have hnm := (name_of_methodNamed Bd.named Bd.method).1
  have X0 : Stand p l e ({ frames := 0, cells := 2, slots := 4, locals := 0 } : Room) s m #[(.ref a0), (.ref a1)] below meth c s₁ [] 0 0 := Stand.of_body Bd
  have e0 : s₁.heap = h0 := by rw [← hh, Bd.state]; rfl
  have N0 := Fr.nil n0
  obtain ⟨G0, hG0⟩ : ∃ G, G = s₁.setTop (entryFrame m #[(.ref a0), (.ref a1)] 10) := ⟨_, rfl⟩
  have K0 : ∀ t, Steps p.tables e below (s₁.setTop (mkF m 0 #[.val (.ref a0), .val (.ref a1), .unset, .unset, .unset, .unset, .unset, .unset, .unset, .unset] [])) t → Steps p.tables e below G0 t := fun t k => by rw [hG0]; exact castTop (ef_rm6_10 m a0 a1) k
  obtain ⟨fc_0, fc_1, fc_2, fc_3, fc_4, fc_5, fc_6, fc_7, fc_8, fc_9, fc_10, fc_11, fc_12, fc_13, fc_14, fc_15⟩ := id FA
  have K1 : ∀ t, Steps p.tables e below (s₁.setTop (mkF m 1 #[.val (.ref a0), .val (.ref a1), .unset, .unset, .unset, .unset, .unset, .unset, .unset, .unset] [(.ref a0)])) t → Steps p.tables e below G0 t := by
    intro t kt
    refine K0 t ?_
    refine XS.aloadN X0.here hx rfl (hb hby d6_0) rfl rfl ?_
    show Steps p.tables e below (s₁.setTop (mkF m 1 #[.val (.ref a0), .val (.ref a1), .unset, .unset, .unset, .unset, .unset, .unset, .unset, .unset] [(.ref a0)])) _
    exact kt
  obtain ⟨T2, X2, e2, st2⟩ := getF X0 hx hZ hown (host := "") (Or.inl (hw _ (List.mem_of_getElem? (i := 41) rfl))) Via.refl e0 fc_2 (g := (mkF m 1 #[.val (.ref a0), .val (.ref a1), .unset, .unset, .unset, .unset, .unset, .unset, .unset, .unset] [(.ref a0)])) rfl rfl (hb hby d6_1)
  have K2 : ∀ t, Steps p.tables e below (T2.setTop (mkF m 4 #[.val (.ref a0), .val (.ref a1), .unset, .unset, .unset, .unset, .unset, .unset, .unset, .unset] [(.int (2 : Int32))])) t → Steps p.tables e below G0 t := fun t kt => K1 t (st2 _ kt)
  obtain ⟨T3, h3, k3, X3, e3, E3, A3, EA3, st3⟩ := newPE X2 hx hZ (hw _ (List.mem_of_getElem? (i := 35) rfl)) e2 (g := (mkF m 4 #[.val (.ref a0), .val (.ref a1), .unset, .unset, .unset, .unset, .unset, .unset, .unset, .unset] [(.int (2 : Int32))])) rfl (hb hby d6_4) rfl (by decide) (cap := 2) (by decide) (by decide) (by decide) (by decide) (ad := "[D") (by decide)
  obtain ⟨b3, g3⟩ : ∃ z, z = h0.size := ⟨_, rfl⟩
  rw [← g3] at A3 EA3 st3
  have V3 := Arv.new A3 (by decide)
  have gn3 : n0 ≤ b3 := Nat.le_trans Z0 (Nat.le_of_eq g3.symm)
  have Z3 : n0 ≤ h3.size := Nat.le_trans Z0 E3.1
  have K3 : ∀ t, Steps p.tables e below (T3.setTop (mkF m 6 #[.val (.ref a0), .val (.ref a1), .unset, .unset, .unset, .unset, .unset, .unset, .unset, .unset] [(.ref b3)])) t → Steps p.tables e below G0 t := fun t kt => K2 t (st3 _ kt)
  have ne_a0_b3 : a0 ≠ b3 := Nat.ne_of_lt (Nat.lt_of_lt_of_le (fc_0).lt (Nat.le_of_eq g3.symm))
  have ne_rb_b3 : rb ≠ b3 := Nat.ne_of_lt (Nat.lt_of_lt_of_le (fc_10).lt (Nat.le_of_eq g3.symm))
  have ne_ml_b3 : ml ≠ b3 := Nat.ne_of_lt (Nat.lt_of_lt_of_le (fc_11).lt (Nat.le_of_eq g3.symm))
  have ne_ln_b3 : ln ≠ b3 := Nat.ne_of_lt (Nat.lt_of_lt_of_le (fc_12).lt (Nat.le_of_eq g3.symm))
  have ne_pe_b3 : pe ≠ b3 := Nat.ne_of_lt (Nat.lt_of_lt_of_le (fc_13).lt (Nat.le_of_eq g3.symm))
  have ne_pu_b3 : pu ≠ b3 := Nat.ne_of_lt (Nat.lt_of_lt_of_le (fc_14).lt (Nat.le_of_eq g3.symm))
  have ne_pc_b3 : pc ≠ b3 := Nat.ne_of_lt (Nat.lt_of_lt_of_le (fc_15).lt (Nat.le_of_eq g3.symm))
  have ne_a1_b3 : a1 ≠ b3 := Nat.ne_of_lt (Nat.lt_of_lt_of_le (V_a1).lt (Nat.le_of_eq g3.symm))
  have ne_u0_b3 : u0 ≠ b3 := Nat.ne_of_lt (Nat.lt_of_lt_of_le (V_u0).lt (Nat.le_of_eq g3.symm))
  have ne_u1_b3 : u1 ≠ b3 := Nat.ne_of_lt (Nat.lt_of_lt_of_le (V_u1).lt (Nat.le_of_eq g3.symm))
  have ne_k0_b3 : k0 ≠ b3 := Nat.ne_of_lt (Nat.lt_of_lt_of_le (V_k0).lt (Nat.le_of_eq g3.symm))
  have ne_k1_b3 : k1 ≠ b3 := Nat.ne_of_lt (Nat.lt_of_lt_of_le (V_k1).lt (Nat.le_of_eq g3.symm))
  have VL3 : Arv Z h3 b3 k3 .double (2 : Int32) [(.double 0), (.double 0)] (.double 0) := V3.pad (pad_rep [] (.double 0) 2)
  have K4 : ∀ t, Steps p.tables e below (T3.setTop (mkF m 11 #[.val (.ref a0), .val (.ref a1), .val (.ref b3), .val (.int (0 : Int32)), .unset, .unset, .unset, .unset, .unset, .unset] [(.ref a0), (.int (0 : Int32))])) t → Steps p.tables e below G0 t := by
    intro t kt
    refine K3 t ?_
    refine XS.astoreN X3.here hx rfl (hb hby d6_6) rfl rfl (l' := #[.val (.ref a0), .val (.ref a1), .val (.ref b3), .unset, .unset, .unset, .unset, .unset, .unset, .unset]) rfl ?_
    show Steps p.tables e below (T3.setTop (mkF m 7 #[.val (.ref a0), .val (.ref a1), .val (.ref b3), .unset, .unset, .unset, .unset, .unset, .unset, .unset] [])) _
    refine XS.iconst X3.here hx rfl (hb hby d6_7) ?_
    show Steps p.tables e below (T3.setTop (mkF m 8 #[.val (.ref a0), .val (.ref a1), .val (.ref b3), .unset, .unset, .unset, .unset, .unset, .unset, .unset] [(.int (0 : Int32))])) _
    refine XS.istoreN X3.here hx rfl (hb hby d6_8) rfl (l' := #[.val (.ref a0), .val (.ref a1), .val (.ref b3), .val (.int (0 : Int32)), .unset, .unset, .unset, .unset, .unset, .unset]) rfl ?_
    show Steps p.tables e below (T3.setTop (mkF m 9 #[.val (.ref a0), .val (.ref a1), .val (.ref b3), .val (.int (0 : Int32)), .unset, .unset, .unset, .unset, .unset, .unset] [])) _
    refine XS.iloadN X3.here hx rfl (hb hby d6_9) rfl ?_
    show Steps p.tables e below (T3.setTop (mkF m 10 #[.val (.ref a0), .val (.ref a1), .val (.ref b3), .val (.int (0 : Int32)), .unset, .unset, .unset, .unset, .unset, .unset] [(.int (0 : Int32))])) _
    refine XS.aloadN X3.here hx rfl (hb hby d6_10) rfl rfl ?_
    show Steps p.tables e below (T3.setTop (mkF m 11 #[.val (.ref a0), .val (.ref a1), .val (.ref b3), .val (.int (0 : Int32)), .unset, .unset, .unset, .unset, .unset, .unset] [(.ref a0), (.int (0 : Int32))])) _
    exact kt
  have f5 := (fc_2.ext E3)
  obtain ⟨T6, X6, e6, st6⟩ := getF X3 hx hZ hown (host := "") (Or.inl (hw _ (List.mem_of_getElem? (i := 41) rfl))) Via.refl e3 f5 (g := (mkF m 11 #[.val (.ref a0), .val (.ref a1), .val (.ref b3), .val (.int (0 : Int32)), .unset, .unset, .unset, .unset, .unset, .unset] [(.ref a0), (.int (0 : Int32))])) rfl rfl (hb hby d6_11)
  have K6 : ∀ t, Steps p.tables e below (T6.setTop (mkF m 14 #[.val (.ref a0), .val (.ref a1), .val (.ref b3), .val (.int (0 : Int32)), .unset, .unset, .unset, .unset, .unset, .unset] [(.int (2 : Int32)), (.int (0 : Int32))])) t → Steps p.tables e below G0 t := fun t kt => K4 t (st6 _ kt)
  have K7 : ∀ t, Steps p.tables e below (T6.setTop (mkF m 18 #[.val (.ref a0), .val (.ref a1), .val (.ref b3), .val (.int (0 : Int32)), .unset, .unset, .unset, .unset, .unset, .unset] [(.ref a0)])) t → Steps p.tables e below G0 t := by
    intro t kt
    refine K6 t ?_
    refine XS.icmpNo X6.here hx rfl (hb hby d6_14) rfl (tlt (by decide)).2.1 ?_
    show Steps p.tables e below (T6.setTop (mkF m 17 #[.val (.ref a0), .val (.ref a1), .val (.ref b3), .val (.int (0 : Int32)), .unset, .unset, .unset, .unset, .unset, .unset] [])) _
    refine XS.aloadN X6.here hx rfl (hb hby d6_17) rfl rfl ?_
    show Steps p.tables e below (T6.setTop (mkF m 18 #[.val (.ref a0), .val (.ref a1), .val (.ref b3), .val (.int (0 : Int32)), .unset, .unset, .unset, .unset, .unset, .unset] [(.ref a0)])) _
    exact kt
  have f8 := (fc_7.ext E3)
  obtain ⟨T9, X9, e9, st9⟩ := getF X6 hx hZ hown (host := "") (Or.inl (hw _ (List.mem_of_getElem? (i := 29) rfl))) Via.refl e6 f8 (g := (mkF m 18 #[.val (.ref a0), .val (.ref a1), .val (.ref b3), .val (.int (0 : Int32)), .unset, .unset, .unset, .unset, .unset, .unset] [(.ref a0)])) rfl rfl (hb hby d6_18)
  have K9 : ∀ t, Steps p.tables e below (T9.setTop (mkF m 21 #[.val (.ref a0), .val (.ref a1), .val (.ref b3), .val (.int (0 : Int32)), .unset, .unset, .unset, .unset, .unset, .unset] [(.ref pe)])) t → Steps p.tables e below G0 t := fun t kt => K7 t (st9 _ kt)
  have K10 : ∀ t, Steps p.tables e below (T9.setTop (mkF m 22 #[.val (.ref a0), .val (.ref a1), .val (.ref b3), .val (.int (0 : Int32)), .unset, .unset, .unset, .unset, .unset, .unset] [(.int (0 : Int32)), (.ref pe)])) t → Steps p.tables e below G0 t := by
    intro t kt
    refine K9 t ?_
    refine XS.iloadN X9.here hx rfl (hb hby d6_21) rfl ?_
    show Steps p.tables e below (T9.setTop (mkF m 22 #[.val (.ref a0), .val (.ref a1), .val (.ref b3), .val (.int (0 : Int32)), .unset, .unset, .unset, .unset, .unset, .unset] [(.int (0 : Int32)), (.ref pe)])) _
    exact kt
  have f11 := (fc_13.ext E3)
  obtain ⟨cl12, Ar12, qq12, S12, M12, H12, GG12⟩ := id f11
  have hin12 : ¬ ((0 : Int32) < 0 ∨ cl12.slots.size ≤ ((0 : Int32)).toNatClampNeg) := inb_of S12 ⟨by decide, by decide⟩
  have hat12 : cl12.slots[((0 : Int32)).toNatClampNeg]? = some (.int (1 : Int32)) := Has.at H12 hin12 rfl
  have K13 : ∀ t, Steps p.tables e below (T9.setTop (mkF m 28 #[.val (.ref a0), .val (.ref a1), .val (.ref b3), .val (.int (0 : Int32)), .val (.int (1 : Int32)), .unset, .unset, .unset, .unset, .unset] [(.int (1 : Int32)), (.ref a1)])) t → Steps p.tables e below G0 t := by
    intro t kt
    refine K10 t ?_
    refine X9.iaload hx (j := (0 : Int32)) (v := (.int (1 : Int32))) (by rw [e9]; exact (Ar12).1) (State.isArrayOf_alike hZ.alike (Ar12).2.1) (Ar12).2.2 hin12 hat12 (g := (mkF m 22 #[.val (.ref a0), .val (.ref a1), .val (.ref b3), .val (.int (0 : Int32)), .unset, .unset, .unset, .unset, .unset, .unset] [(.int (0 : Int32)), (.ref pe)])) rfl rfl (hb hby d6_22) _ ?_
    show Steps p.tables e below (T9.setTop (mkF m 23 #[.val (.ref a0), .val (.ref a1), .val (.ref b3), .val (.int (0 : Int32)), .unset, .unset, .unset, .unset, .unset, .unset] [(.int (1 : Int32))])) _
    refine XS.istore X9.here hx rfl (hb hby d6_23) rfl (l' := #[.val (.ref a0), .val (.ref a1), .val (.ref b3), .val (.int (0 : Int32)), .val (.int (1 : Int32)), .unset, .unset, .unset, .unset, .unset]) rfl ?_
    show Steps p.tables e below (T9.setTop (mkF m 25 #[.val (.ref a0), .val (.ref a1), .val (.ref b3), .val (.int (0 : Int32)), .val (.int (1 : Int32)), .unset, .unset, .unset, .unset, .unset] [])) _
    refine XS.aloadN X9.here hx rfl (hb hby d6_25) rfl rfl ?_
    show Steps p.tables e below (T9.setTop (mkF m 26 #[.val (.ref a0), .val (.ref a1), .val (.ref b3), .val (.int (0 : Int32)), .val (.int (1 : Int32)), .unset, .unset, .unset, .unset, .unset] [(.ref a1)])) _
    refine XS.iload X9.here hx rfl (hb hby d6_26) rfl ?_
    show Steps p.tables e below (T9.setTop (mkF m 28 #[.val (.ref a0), .val (.ref a1), .val (.ref b3), .val (.int (0 : Int32)), .val (.int (1 : Int32)), .unset, .unset, .unset, .unset, .unset] [(.int (1 : Int32)), (.ref a1)])) _
    exact kt
  have f14 := (V_a1.ext E3)
  obtain ⟨cl15, Ar15, qq15, S15, M15, H15, GG15⟩ := id f14
  have hin15 : ¬ ((1 : Int32) < 0 ∨ cl15.slots.size ≤ ((1 : Int32)).toNatClampNeg) := inb_of S15 ⟨by decide, by decide⟩
  have hat15 : cl15.slots[((1 : Int32)).toNatClampNeg]? = some (.double r1) := Has.at H15 hin15 rfl
  have K16 : ∀ t, Steps p.tables e below (T9.setTop (mkF m 37 #[.val (.ref a0), .val (.ref a1), .val (.ref b3), .val (.int (0 : Int32)), .val (.int (1 : Int32)), .val (.double r1), .second, .val (.int (0 : Int32)), .unset, .unset] [(.ref a0), (.int (0 : Int32))])) t → Steps p.tables e below G0 t := by
    intro t kt
    refine K13 t ?_
    refine X9.daload hx (j := (1 : Int32)) (v := (.double r1)) (by rw [e9]; exact (Ar15).1) (State.isArrayOf_alike hZ.alike (Ar15).2.1) (Ar15).2.2 hin15 hat15 (g := (mkF m 28 #[.val (.ref a0), .val (.ref a1), .val (.ref b3), .val (.int (0 : Int32)), .val (.int (1 : Int32)), .unset, .unset, .unset, .unset, .unset] [(.int (1 : Int32)), (.ref a1)])) rfl rfl (hb hby d6_28) _ ?_
    show Steps p.tables e below (T9.setTop (mkF m 29 #[.val (.ref a0), .val (.ref a1), .val (.ref b3), .val (.int (0 : Int32)), .val (.int (1 : Int32)), .unset, .unset, .unset, .unset, .unset] [(.double r1)])) _
    refine XS.dstore X9.here hx rfl (hb hby d6_29) rfl (l' := #[.val (.ref a0), .val (.ref a1), .val (.ref b3), .val (.int (0 : Int32)), .val (.int (1 : Int32)), .val (.double r1), .second, .unset, .unset, .unset]) rfl ?_
    show Steps p.tables e below (T9.setTop (mkF m 31 #[.val (.ref a0), .val (.ref a1), .val (.ref b3), .val (.int (0 : Int32)), .val (.int (1 : Int32)), .val (.double r1), .second, .unset, .unset, .unset] [])) _
    refine XS.iconst X9.here hx rfl (hb hby d6_31) ?_
    show Steps p.tables e below (T9.setTop (mkF m 32 #[.val (.ref a0), .val (.ref a1), .val (.ref b3), .val (.int (0 : Int32)), .val (.int (1 : Int32)), .val (.double r1), .second, .unset, .unset, .unset] [(.int (0 : Int32))])) _
    refine XS.istore X9.here hx rfl (hb hby d6_32) rfl (l' := #[.val (.ref a0), .val (.ref a1), .val (.ref b3), .val (.int (0 : Int32)), .val (.int (1 : Int32)), .val (.double r1), .second, .val (.int (0 : Int32)), .unset, .unset]) rfl ?_
    show Steps p.tables e below (T9.setTop (mkF m 34 #[.val (.ref a0), .val (.ref a1), .val (.ref b3), .val (.int (0 : Int32)), .val (.int (1 : Int32)), .val (.double r1), .second, .val (.int (0 : Int32)), .unset, .unset] [])) _
    refine XS.iload X9.here hx rfl (hb hby d6_34) rfl ?_
    show Steps p.tables e below (T9.setTop (mkF m 36 #[.val (.ref a0), .val (.ref a1), .val (.ref b3), .val (.int (0 : Int32)), .val (.int (1 : Int32)), .val (.double r1), .second, .val (.int (0 : Int32)), .unset, .unset] [(.int (0 : Int32))])) _
    refine XS.aloadN X9.here hx rfl (hb hby d6_36) rfl rfl ?_
    show Steps p.tables e below (T9.setTop (mkF m 37 #[.val (.ref a0), .val (.ref a1), .val (.ref b3), .val (.int (0 : Int32)), .val (.int (1 : Int32)), .val (.double r1), .second, .val (.int (0 : Int32)), .unset, .unset] [(.ref a0), (.int (0 : Int32))])) _
    exact kt
  have f17 := (fc_6.ext E3)
  obtain ⟨T18, X18, e18, st18⟩ := getF X9 hx hZ hown (host := "") (Or.inl (hw _ (List.mem_of_getElem? (i := 23) rfl))) Via.refl e9 f17 (g := (mkF m 37 #[.val (.ref a0), .val (.ref a1), .val (.ref b3), .val (.int (0 : Int32)), .val (.int (1 : Int32)), .val (.double r1), .second, .val (.int (0 : Int32)), .unset, .unset] [(.ref a0), (.int (0 : Int32))])) rfl rfl (hb hby d6_37)
  have K18 : ∀ t, Steps p.tables e below (T18.setTop (mkF m 40 #[.val (.ref a0), .val (.ref a1), .val (.ref b3), .val (.int (0 : Int32)), .val (.int (1 : Int32)), .val (.double r1), .second, .val (.int (0 : Int32)), .unset, .unset] [(.ref ln), (.int (0 : Int32))])) t → Steps p.tables e below G0 t := fun t kt => K16 t (st18 _ kt)
  have K19 : ∀ t, Steps p.tables e below (T18.setTop (mkF m 42 #[.val (.ref a0), .val (.ref a1), .val (.ref b3), .val (.int (0 : Int32)), .val (.int (1 : Int32)), .val (.double r1), .second, .val (.int (0 : Int32)), .unset, .unset] [(.int (1 : Int32)), (.ref ln), (.int (0 : Int32))])) t → Steps p.tables e below G0 t := by
    intro t kt
    refine K18 t ?_
    refine XS.iload X18.here hx rfl (hb hby d6_40) rfl ?_
    show Steps p.tables e below (T18.setTop (mkF m 42 #[.val (.ref a0), .val (.ref a1), .val (.ref b3), .val (.int (0 : Int32)), .val (.int (1 : Int32)), .val (.double r1), .second, .val (.int (0 : Int32)), .unset, .unset] [(.int (1 : Int32)), (.ref ln), (.int (0 : Int32))])) _
    exact kt
  have f20 := (fc_12.ext E3)
  obtain ⟨cl21, Ar21, qq21, S21, M21, H21, GG21⟩ := id f20
  have hin21 : ¬ ((1 : Int32) < 0 ∨ cl21.slots.size ≤ ((1 : Int32)).toNatClampNeg) := inb_of S21 ⟨by decide, by decide⟩
  have hat21 : cl21.slots[((1 : Int32)).toNatClampNeg]? = some (.int (0 : Int32)) := Has.at H21 hin21 rfl
  have K22 : ∀ t, Steps p.tables e below (T18.setTop (mkF m 84 #[.val (.ref a0), .val (.ref a1), .val (.ref b3), .val (.int (0 : Int32)), .val (.int (1 : Int32)), .val (.double r1), .second, .val (.int (0 : Int32)), .unset, .unset] [(.double r1), (.int (0 : Int32)), (.ref b3)])) t → Steps p.tables e below G0 t := by
    intro t kt
    refine K19 t ?_
    refine X18.iaload hx (j := (1 : Int32)) (v := (.int (0 : Int32))) (by rw [e18]; exact (Ar21).1) (State.isArrayOf_alike hZ.alike (Ar21).2.1) (Ar21).2.2 hin21 hat21 (g := (mkF m 42 #[.val (.ref a0), .val (.ref a1), .val (.ref b3), .val (.int (0 : Int32)), .val (.int (1 : Int32)), .val (.double r1), .second, .val (.int (0 : Int32)), .unset, .unset] [(.int (1 : Int32)), (.ref ln), (.int (0 : Int32))])) rfl rfl (hb hby d6_42) _ ?_
    show Steps p.tables e below (T18.setTop (mkF m 43 #[.val (.ref a0), .val (.ref a1), .val (.ref b3), .val (.int (0 : Int32)), .val (.int (1 : Int32)), .val (.double r1), .second, .val (.int (0 : Int32)), .unset, .unset] [(.int (0 : Int32)), (.int (0 : Int32))])) _
    refine XS.icmpYes X18.here hx rfl (pc0 := 43) (pc' := 80) rfl (hb hby d6_43) rfl (flt (by decide)).2.1 (by decide) (by decide) ?_
    show Steps p.tables e below (T18.setTop (mkF m 80 #[.val (.ref a0), .val (.ref a1), .val (.ref b3), .val (.int (0 : Int32)), .val (.int (1 : Int32)), .val (.double r1), .second, .val (.int (0 : Int32)), .unset, .unset] [])) _
    refine XS.aloadN X18.here hx rfl (hb hby d6_80) rfl rfl ?_
    show Steps p.tables e below (T18.setTop (mkF m 81 #[.val (.ref a0), .val (.ref a1), .val (.ref b3), .val (.int (0 : Int32)), .val (.int (1 : Int32)), .val (.double r1), .second, .val (.int (0 : Int32)), .unset, .unset] [(.ref b3)])) _
    refine XS.iloadN X18.here hx rfl (hb hby d6_81) rfl ?_
    show Steps p.tables e below (T18.setTop (mkF m 82 #[.val (.ref a0), .val (.ref a1), .val (.ref b3), .val (.int (0 : Int32)), .val (.int (1 : Int32)), .val (.double r1), .second, .val (.int (0 : Int32)), .unset, .unset] [(.int (0 : Int32)), (.ref b3)])) _
    refine XS.dload X18.here hx rfl (hb hby d6_82) rfl ?_
    show Steps p.tables e below (T18.setTop (mkF m 84 #[.val (.ref a0), .val (.ref a1), .val (.ref b3), .val (.int (0 : Int32)), .val (.int (1 : Int32)), .val (.double r1), .second, .val (.int (0 : Int32)), .unset, .unset] [(.double r1), (.int (0 : Int32)), (.ref b3)])) _
    exact kt
  obtain ⟨cl23, Ar23, qq23, S23, M23, H23, GG23⟩ := id VL3
  have hin23 : ¬ ((0 : Int32) < 0 ∨ cl23.slots.size ≤ ((0 : Int32)).toNatClampNeg) := inb_of S23 ⟨by decide, by decide⟩
  obtain ⟨T24, h24, X24, e24, W24, st24⟩ := stD X18 hx hZ e18 Ar23 (j := (0 : Int32)) hin23 (g := (mkF m 84 #[.val (.ref a0), .val (.ref a1), .val (.ref b3), .val (.int (0 : Int32)), .val (.int (1 : Int32)), .val (.double r1), .second, .val (.int (0 : Int32)), .unset, .unset] [(.double r1), (.int (0 : Int32)), (.ref b3)])) rfl rfl (hb hby d6_84)
  have K24 : ∀ t, Steps p.tables e below (T24.setTop (mkF m 85 #[.val (.ref a0), .val (.ref a1), .val (.ref b3), .val (.int (0 : Int32)), .val (.int (1 : Int32)), .val (.double r1), .second, .val (.int (0 : Int32)), .unset, .unset] [])) t → Steps p.tables e below G0 t := fun t kt => K22 t (st24 _ kt)
  have Z24 : n0 ≤ h24.size := Nat.le_trans Z3 (Keep.of_wr W24).1
  have VL24 : Arv Z h24 b3 k3 .double (2 : Int32) [(.double r1), (.double 0)] (.double 0) := Arv.set Ar23 qq23 S23 M23 H23 GG23 rfl W24 0 rfl (Nat.le_of_ble_eq_true rfl)
  have N24 := Fr.snoc X24 N0 gn3
  have K25 : ∀ t, Steps p.tables e below (T24.setTop (mkF m 88 #[.val (.ref a0), .val (.ref a1), .val (.ref b3), .val (.int ((0 : Int32) + (1 : Int32))), .val (.int (1 : Int32)), .val (.double r1), .second, .val (.int (0 : Int32)), .unset, .unset] [])) t → Steps p.tables e below G0 t := by
    intro t kt
    refine K24 t ?_
    refine XS.iinc X24.here hx rfl (hb hby d6_85) rfl (l' := #[.val (.ref a0), .val (.ref a1), .val (.ref b3), .val (.int ((0 : Int32) + (1 : Int32))), .val (.int (1 : Int32)), .val (.double r1), .second, .val (.int (0 : Int32)), .unset, .unset]) rfl ?_
    show Steps p.tables e below (T24.setTop (mkF m 88 #[.val (.ref a0), .val (.ref a1), .val (.ref b3), .val (.int ((0 : Int32) + (1 : Int32))), .val (.int (1 : Int32)), .val (.double r1), .second, .val (.int (0 : Int32)), .unset, .unset] [])) _
    exact kt
  rw [show ((0 : Int32) + (1 : Int32)) = (1 : Int32) from by decide] at K25
  have K26 : ∀ t, Steps p.tables e below (T24.setTop (mkF m 11 #[.val (.ref a0), .val (.ref a1), .val (.ref b3), .val (.int (1 : Int32)), .val (.int (1 : Int32)), .val (.double r1), .second, .val (.int (0 : Int32)), .unset, .unset] [(.ref a0), (.int (1 : Int32))])) t → Steps p.tables e below G0 t := by
    intro t kt
    refine K25 t ?_
    refine XS.goto X24.here hx rfl (pc0 := 88) (pc' := 9) rfl (hb hby d6_88) (by decide) (by decide) ?_
    show Steps p.tables e below (T24.setTop (mkF m 9 #[.val (.ref a0), .val (.ref a1), .val (.ref b3), .val (.int (1 : Int32)), .val (.int (1 : Int32)), .val (.double r1), .second, .val (.int (0 : Int32)), .unset, .unset] [])) _
    refine XS.iloadN X24.here hx rfl (hb hby d6_9) rfl ?_
    show Steps p.tables e below (T24.setTop (mkF m 10 #[.val (.ref a0), .val (.ref a1), .val (.ref b3), .val (.int (1 : Int32)), .val (.int (1 : Int32)), .val (.double r1), .second, .val (.int (0 : Int32)), .unset, .unset] [(.int (1 : Int32))])) _
    refine XS.aloadN X24.here hx rfl (hb hby d6_10) rfl rfl ?_
    show Steps p.tables e below (T24.setTop (mkF m 11 #[.val (.ref a0), .val (.ref a1), .val (.ref b3), .val (.int (1 : Int32)), .val (.int (1 : Int32)), .val (.double r1), .second, .val (.int (0 : Int32)), .unset, .unset] [(.ref a0), (.int (1 : Int32))])) _
    exact kt
  have f27 := (f5.other W24 (Or.inl ne_a0_b3))
  obtain ⟨T28, X28, e28, st28⟩ := getF X24 hx hZ hown (host := "") (Or.inl (hw _ (List.mem_of_getElem? (i := 41) rfl))) Via.refl e24 f27 (g := (mkF m 11 #[.val (.ref a0), .val (.ref a1), .val (.ref b3), .val (.int (1 : Int32)), .val (.int (1 : Int32)), .val (.double r1), .second, .val (.int (0 : Int32)), .unset, .unset] [(.ref a0), (.int (1 : Int32))])) rfl rfl (hb hby d6_11)
  have K28 : ∀ t, Steps p.tables e below (T28.setTop (mkF m 14 #[.val (.ref a0), .val (.ref a1), .val (.ref b3), .val (.int (1 : Int32)), .val (.int (1 : Int32)), .val (.double r1), .second, .val (.int (0 : Int32)), .unset, .unset] [(.int (2 : Int32)), (.int (1 : Int32))])) t → Steps p.tables e below G0 t := fun t kt => K26 t (st28 _ kt)
  have K29 : ∀ t, Steps p.tables e below (T28.setTop (mkF m 18 #[.val (.ref a0), .val (.ref a1), .val (.ref b3), .val (.int (1 : Int32)), .val (.int (1 : Int32)), .val (.double r1), .second, .val (.int (0 : Int32)), .unset, .unset] [(.ref a0)])) t → Steps p.tables e below G0 t := by
    intro t kt
    refine K28 t ?_
    refine XS.icmpNo X28.here hx rfl (hb hby d6_14) rfl (tlt (by decide)).2.1 ?_
    show Steps p.tables e below (T28.setTop (mkF m 17 #[.val (.ref a0), .val (.ref a1), .val (.ref b3), .val (.int (1 : Int32)), .val (.int (1 : Int32)), .val (.double r1), .second, .val (.int (0 : Int32)), .unset, .unset] [])) _
    refine XS.aloadN X28.here hx rfl (hb hby d6_17) rfl rfl ?_
    show Steps p.tables e below (T28.setTop (mkF m 18 #[.val (.ref a0), .val (.ref a1), .val (.ref b3), .val (.int (1 : Int32)), .val (.int (1 : Int32)), .val (.double r1), .second, .val (.int (0 : Int32)), .unset, .unset] [(.ref a0)])) _
    exact kt
  have f30 := (f8.other W24 (Or.inl ne_a0_b3))
  obtain ⟨T31, X31, e31, st31⟩ := getF X28 hx hZ hown (host := "") (Or.inl (hw _ (List.mem_of_getElem? (i := 29) rfl))) Via.refl e28 f30 (g := (mkF m 18 #[.val (.ref a0), .val (.ref a1), .val (.ref b3), .val (.int (1 : Int32)), .val (.int (1 : Int32)), .val (.double r1), .second, .val (.int (0 : Int32)), .unset, .unset] [(.ref a0)])) rfl rfl (hb hby d6_18)
  have K31 : ∀ t, Steps p.tables e below (T31.setTop (mkF m 21 #[.val (.ref a0), .val (.ref a1), .val (.ref b3), .val (.int (1 : Int32)), .val (.int (1 : Int32)), .val (.double r1), .second, .val (.int (0 : Int32)), .unset, .unset] [(.ref pe)])) t → Steps p.tables e below G0 t := fun t kt => K29 t (st31 _ kt)
  have K32 : ∀ t, Steps p.tables e below (T31.setTop (mkF m 22 #[.val (.ref a0), .val (.ref a1), .val (.ref b3), .val (.int (1 : Int32)), .val (.int (1 : Int32)), .val (.double r1), .second, .val (.int (0 : Int32)), .unset, .unset] [(.int (1 : Int32)), (.ref pe)])) t → Steps p.tables e below G0 t := by
    intro t kt
    refine K31 t ?_
    refine XS.iloadN X31.here hx rfl (hb hby d6_21) rfl ?_
    show Steps p.tables e below (T31.setTop (mkF m 22 #[.val (.ref a0), .val (.ref a1), .val (.ref b3), .val (.int (1 : Int32)), .val (.int (1 : Int32)), .val (.double r1), .second, .val (.int (0 : Int32)), .unset, .unset] [(.int (1 : Int32)), (.ref pe)])) _
    exact kt
  have f33 := (f11.other W24 ne_pe_b3)
  obtain ⟨cl34, Ar34, qq34, S34, M34, H34, GG34⟩ := id f33
  have hin34 : ¬ ((1 : Int32) < 0 ∨ cl34.slots.size ≤ ((1 : Int32)).toNatClampNeg) := inb_of S34 ⟨by decide, by decide⟩
  have hat34 : cl34.slots[((1 : Int32)).toNatClampNeg]? = some (.int (0 : Int32)) := Has.at H34 hin34 rfl
  have K35 : ∀ t, Steps p.tables e below (T31.setTop (mkF m 28 #[.val (.ref a0), .val (.ref a1), .val (.ref b3), .val (.int (1 : Int32)), .val (.int (0 : Int32)), .val (.double r1), .second, .val (.int (0 : Int32)), .unset, .unset] [(.int (0 : Int32)), (.ref a1)])) t → Steps p.tables e below G0 t := by
    intro t kt
    refine K32 t ?_
    refine X31.iaload hx (j := (1 : Int32)) (v := (.int (0 : Int32))) (by rw [e31]; exact (Ar34).1) (State.isArrayOf_alike hZ.alike (Ar34).2.1) (Ar34).2.2 hin34 hat34 (g := (mkF m 22 #[.val (.ref a0), .val (.ref a1), .val (.ref b3), .val (.int (1 : Int32)), .val (.int (1 : Int32)), .val (.double r1), .second, .val (.int (0 : Int32)), .unset, .unset] [(.int (1 : Int32)), (.ref pe)])) rfl rfl (hb hby d6_22) _ ?_
    show Steps p.tables e below (T31.setTop (mkF m 23 #[.val (.ref a0), .val (.ref a1), .val (.ref b3), .val (.int (1 : Int32)), .val (.int (1 : Int32)), .val (.double r1), .second, .val (.int (0 : Int32)), .unset, .unset] [(.int (0 : Int32))])) _
    refine XS.istore X31.here hx rfl (hb hby d6_23) rfl (l' := #[.val (.ref a0), .val (.ref a1), .val (.ref b3), .val (.int (1 : Int32)), .val (.int (0 : Int32)), .val (.double r1), .second, .val (.int (0 : Int32)), .unset, .unset]) rfl ?_
    show Steps p.tables e below (T31.setTop (mkF m 25 #[.val (.ref a0), .val (.ref a1), .val (.ref b3), .val (.int (1 : Int32)), .val (.int (0 : Int32)), .val (.double r1), .second, .val (.int (0 : Int32)), .unset, .unset] [])) _
    refine XS.aloadN X31.here hx rfl (hb hby d6_25) rfl rfl ?_
    show Steps p.tables e below (T31.setTop (mkF m 26 #[.val (.ref a0), .val (.ref a1), .val (.ref b3), .val (.int (1 : Int32)), .val (.int (0 : Int32)), .val (.double r1), .second, .val (.int (0 : Int32)), .unset, .unset] [(.ref a1)])) _
    refine XS.iload X31.here hx rfl (hb hby d6_26) rfl ?_
    show Steps p.tables e below (T31.setTop (mkF m 28 #[.val (.ref a0), .val (.ref a1), .val (.ref b3), .val (.int (1 : Int32)), .val (.int (0 : Int32)), .val (.double r1), .second, .val (.int (0 : Int32)), .unset, .unset] [(.int (0 : Int32)), (.ref a1)])) _
    exact kt
  have f36 := (f14.other W24 ne_a1_b3)
  obtain ⟨cl37, Ar37, qq37, S37, M37, H37, GG37⟩ := id f36
  have hin37 : ¬ ((0 : Int32) < 0 ∨ cl37.slots.size ≤ ((0 : Int32)).toNatClampNeg) := inb_of S37 ⟨by decide, by decide⟩
  have hat37 : cl37.slots[((0 : Int32)).toNatClampNeg]? = some (.double r0) := Has.at H37 hin37 rfl
  have K38 : ∀ t, Steps p.tables e below (T31.setTop (mkF m 37 #[.val (.ref a0), .val (.ref a1), .val (.ref b3), .val (.int (1 : Int32)), .val (.int (0 : Int32)), .val (.double r0), .second, .val (.int (0 : Int32)), .unset, .unset] [(.ref a0), (.int (0 : Int32))])) t → Steps p.tables e below G0 t := by
    intro t kt
    refine K35 t ?_
    refine X31.daload hx (j := (0 : Int32)) (v := (.double r0)) (by rw [e31]; exact (Ar37).1) (State.isArrayOf_alike hZ.alike (Ar37).2.1) (Ar37).2.2 hin37 hat37 (g := (mkF m 28 #[.val (.ref a0), .val (.ref a1), .val (.ref b3), .val (.int (1 : Int32)), .val (.int (0 : Int32)), .val (.double r1), .second, .val (.int (0 : Int32)), .unset, .unset] [(.int (0 : Int32)), (.ref a1)])) rfl rfl (hb hby d6_28) _ ?_
    show Steps p.tables e below (T31.setTop (mkF m 29 #[.val (.ref a0), .val (.ref a1), .val (.ref b3), .val (.int (1 : Int32)), .val (.int (0 : Int32)), .val (.double r1), .second, .val (.int (0 : Int32)), .unset, .unset] [(.double r0)])) _
    refine XS.dstore X31.here hx rfl (hb hby d6_29) rfl (l' := #[.val (.ref a0), .val (.ref a1), .val (.ref b3), .val (.int (1 : Int32)), .val (.int (0 : Int32)), .val (.double r0), .second, .val (.int (0 : Int32)), .unset, .unset]) rfl ?_
    show Steps p.tables e below (T31.setTop (mkF m 31 #[.val (.ref a0), .val (.ref a1), .val (.ref b3), .val (.int (1 : Int32)), .val (.int (0 : Int32)), .val (.double r0), .second, .val (.int (0 : Int32)), .unset, .unset] [])) _
    refine XS.iconst X31.here hx rfl (hb hby d6_31) ?_
    show Steps p.tables e below (T31.setTop (mkF m 32 #[.val (.ref a0), .val (.ref a1), .val (.ref b3), .val (.int (1 : Int32)), .val (.int (0 : Int32)), .val (.double r0), .second, .val (.int (0 : Int32)), .unset, .unset] [(.int (0 : Int32))])) _
    refine XS.istore X31.here hx rfl (hb hby d6_32) rfl (l' := #[.val (.ref a0), .val (.ref a1), .val (.ref b3), .val (.int (1 : Int32)), .val (.int (0 : Int32)), .val (.double r0), .second, .val (.int (0 : Int32)), .unset, .unset]) rfl ?_
    show Steps p.tables e below (T31.setTop (mkF m 34 #[.val (.ref a0), .val (.ref a1), .val (.ref b3), .val (.int (1 : Int32)), .val (.int (0 : Int32)), .val (.double r0), .second, .val (.int (0 : Int32)), .unset, .unset] [])) _
    refine XS.iload X31.here hx rfl (hb hby d6_34) rfl ?_
    show Steps p.tables e below (T31.setTop (mkF m 36 #[.val (.ref a0), .val (.ref a1), .val (.ref b3), .val (.int (1 : Int32)), .val (.int (0 : Int32)), .val (.double r0), .second, .val (.int (0 : Int32)), .unset, .unset] [(.int (0 : Int32))])) _
    refine XS.aloadN X31.here hx rfl (hb hby d6_36) rfl rfl ?_
    show Steps p.tables e below (T31.setTop (mkF m 37 #[.val (.ref a0), .val (.ref a1), .val (.ref b3), .val (.int (1 : Int32)), .val (.int (0 : Int32)), .val (.double r0), .second, .val (.int (0 : Int32)), .unset, .unset] [(.ref a0), (.int (0 : Int32))])) _
    exact kt
  have f39 := (f17.other W24 (Or.inl ne_a0_b3))
  obtain ⟨T40, X40, e40, st40⟩ := getF X31 hx hZ hown (host := "") (Or.inl (hw _ (List.mem_of_getElem? (i := 23) rfl))) Via.refl e31 f39 (g := (mkF m 37 #[.val (.ref a0), .val (.ref a1), .val (.ref b3), .val (.int (1 : Int32)), .val (.int (0 : Int32)), .val (.double r0), .second, .val (.int (0 : Int32)), .unset, .unset] [(.ref a0), (.int (0 : Int32))])) rfl rfl (hb hby d6_37)
  have K40 : ∀ t, Steps p.tables e below (T40.setTop (mkF m 40 #[.val (.ref a0), .val (.ref a1), .val (.ref b3), .val (.int (1 : Int32)), .val (.int (0 : Int32)), .val (.double r0), .second, .val (.int (0 : Int32)), .unset, .unset] [(.ref ln), (.int (0 : Int32))])) t → Steps p.tables e below G0 t := fun t kt => K38 t (st40 _ kt)
  have K41 : ∀ t, Steps p.tables e below (T40.setTop (mkF m 42 #[.val (.ref a0), .val (.ref a1), .val (.ref b3), .val (.int (1 : Int32)), .val (.int (0 : Int32)), .val (.double r0), .second, .val (.int (0 : Int32)), .unset, .unset] [(.int (0 : Int32)), (.ref ln), (.int (0 : Int32))])) t → Steps p.tables e below G0 t := by
    intro t kt
    refine K40 t ?_
    refine XS.iload X40.here hx rfl (hb hby d6_40) rfl ?_
    show Steps p.tables e below (T40.setTop (mkF m 42 #[.val (.ref a0), .val (.ref a1), .val (.ref b3), .val (.int (1 : Int32)), .val (.int (0 : Int32)), .val (.double r0), .second, .val (.int (0 : Int32)), .unset, .unset] [(.int (0 : Int32)), (.ref ln), (.int (0 : Int32))])) _
    exact kt
  have f42 := (f20.other W24 ne_ln_b3)
  obtain ⟨cl43, Ar43, qq43, S43, M43, H43, GG43⟩ := id f42
  have hin43 : ¬ ((0 : Int32) < 0 ∨ cl43.slots.size ≤ ((0 : Int32)).toNatClampNeg) := inb_of S43 ⟨by decide, by decide⟩
  have hat43 : cl43.slots[((0 : Int32)).toNatClampNeg]? = some (.int (0 : Int32)) := Has.at H43 hin43 rfl
  have K44 : ∀ t, Steps p.tables e below (T40.setTop (mkF m 84 #[.val (.ref a0), .val (.ref a1), .val (.ref b3), .val (.int (1 : Int32)), .val (.int (0 : Int32)), .val (.double r0), .second, .val (.int (0 : Int32)), .unset, .unset] [(.double r0), (.int (1 : Int32)), (.ref b3)])) t → Steps p.tables e below G0 t := by
    intro t kt
    refine K41 t ?_
    refine X40.iaload hx (j := (0 : Int32)) (v := (.int (0 : Int32))) (by rw [e40]; exact (Ar43).1) (State.isArrayOf_alike hZ.alike (Ar43).2.1) (Ar43).2.2 hin43 hat43 (g := (mkF m 42 #[.val (.ref a0), .val (.ref a1), .val (.ref b3), .val (.int (1 : Int32)), .val (.int (0 : Int32)), .val (.double r0), .second, .val (.int (0 : Int32)), .unset, .unset] [(.int (0 : Int32)), (.ref ln), (.int (0 : Int32))])) rfl rfl (hb hby d6_42) _ ?_
    show Steps p.tables e below (T40.setTop (mkF m 43 #[.val (.ref a0), .val (.ref a1), .val (.ref b3), .val (.int (1 : Int32)), .val (.int (0 : Int32)), .val (.double r0), .second, .val (.int (0 : Int32)), .unset, .unset] [(.int (0 : Int32)), (.int (0 : Int32))])) _
    refine XS.icmpYes X40.here hx rfl (pc0 := 43) (pc' := 80) rfl (hb hby d6_43) rfl (flt (by decide)).2.1 (by decide) (by decide) ?_
    show Steps p.tables e below (T40.setTop (mkF m 80 #[.val (.ref a0), .val (.ref a1), .val (.ref b3), .val (.int (1 : Int32)), .val (.int (0 : Int32)), .val (.double r0), .second, .val (.int (0 : Int32)), .unset, .unset] [])) _
    refine XS.aloadN X40.here hx rfl (hb hby d6_80) rfl rfl ?_
    show Steps p.tables e below (T40.setTop (mkF m 81 #[.val (.ref a0), .val (.ref a1), .val (.ref b3), .val (.int (1 : Int32)), .val (.int (0 : Int32)), .val (.double r0), .second, .val (.int (0 : Int32)), .unset, .unset] [(.ref b3)])) _
    refine XS.iloadN X40.here hx rfl (hb hby d6_81) rfl ?_
    show Steps p.tables e below (T40.setTop (mkF m 82 #[.val (.ref a0), .val (.ref a1), .val (.ref b3), .val (.int (1 : Int32)), .val (.int (0 : Int32)), .val (.double r0), .second, .val (.int (0 : Int32)), .unset, .unset] [(.int (1 : Int32)), (.ref b3)])) _
    refine XS.dload X40.here hx rfl (hb hby d6_82) rfl ?_
    show Steps p.tables e below (T40.setTop (mkF m 84 #[.val (.ref a0), .val (.ref a1), .val (.ref b3), .val (.int (1 : Int32)), .val (.int (0 : Int32)), .val (.double r0), .second, .val (.int (0 : Int32)), .unset, .unset] [(.double r0), (.int (1 : Int32)), (.ref b3)])) _
    exact kt
  obtain ⟨cl45, Ar45, qq45, S45, M45, H45, GG45⟩ := id VL24
  have hin45 : ¬ ((1 : Int32) < 0 ∨ cl45.slots.size ≤ ((1 : Int32)).toNatClampNeg) := inb_of S45 ⟨by decide, by decide⟩
  obtain ⟨T46, h46, X46, e46, W46, st46⟩ := stD X40 hx hZ e40 Ar45 (j := (1 : Int32)) hin45 (g := (mkF m 84 #[.val (.ref a0), .val (.ref a1), .val (.ref b3), .val (.int (1 : Int32)), .val (.int (0 : Int32)), .val (.double r0), .second, .val (.int (0 : Int32)), .unset, .unset] [(.double r0), (.int (1 : Int32)), (.ref b3)])) rfl rfl (hb hby d6_84)
  have K46 : ∀ t, Steps p.tables e below (T46.setTop (mkF m 85 #[.val (.ref a0), .val (.ref a1), .val (.ref b3), .val (.int (1 : Int32)), .val (.int (0 : Int32)), .val (.double r0), .second, .val (.int (0 : Int32)), .unset, .unset] [])) t → Steps p.tables e below G0 t := fun t kt => K44 t (st46 _ kt)
  have Z46 : n0 ≤ h46.size := Nat.le_trans Z24 (Keep.of_wr W46).1
  have VL46 : Arv Z h46 b3 k3 .double (2 : Int32) [(.double r1), (.double r0)] (.double 0) := Arv.set Ar45 qq45 S45 M45 H45 GG45 rfl W46 1 rfl (Nat.le_of_ble_eq_true rfl)
  have N46 := Fr.snoc X46 N24 gn3
  have K47 : ∀ t, Steps p.tables e below (T46.setTop (mkF m 88 #[.val (.ref a0), .val (.ref a1), .val (.ref b3), .val (.int ((1 : Int32) + (1 : Int32))), .val (.int (0 : Int32)), .val (.double r0), .second, .val (.int (0 : Int32)), .unset, .unset] [])) t → Steps p.tables e below G0 t := by
    intro t kt
    refine K46 t ?_
    refine XS.iinc X46.here hx rfl (hb hby d6_85) rfl (l' := #[.val (.ref a0), .val (.ref a1), .val (.ref b3), .val (.int ((1 : Int32) + (1 : Int32))), .val (.int (0 : Int32)), .val (.double r0), .second, .val (.int (0 : Int32)), .unset, .unset]) rfl ?_
    show Steps p.tables e below (T46.setTop (mkF m 88 #[.val (.ref a0), .val (.ref a1), .val (.ref b3), .val (.int ((1 : Int32) + (1 : Int32))), .val (.int (0 : Int32)), .val (.double r0), .second, .val (.int (0 : Int32)), .unset, .unset] [])) _
    exact kt
  rw [show ((1 : Int32) + (1 : Int32)) = (2 : Int32) from by decide] at K47
  have K48 : ∀ t, Steps p.tables e below (T46.setTop (mkF m 11 #[.val (.ref a0), .val (.ref a1), .val (.ref b3), .val (.int (2 : Int32)), .val (.int (0 : Int32)), .val (.double r0), .second, .val (.int (0 : Int32)), .unset, .unset] [(.ref a0), (.int (2 : Int32))])) t → Steps p.tables e below G0 t := by
    intro t kt
    refine K47 t ?_
    refine XS.goto X46.here hx rfl (pc0 := 88) (pc' := 9) rfl (hb hby d6_88) (by decide) (by decide) ?_
    show Steps p.tables e below (T46.setTop (mkF m 9 #[.val (.ref a0), .val (.ref a1), .val (.ref b3), .val (.int (2 : Int32)), .val (.int (0 : Int32)), .val (.double r0), .second, .val (.int (0 : Int32)), .unset, .unset] [])) _
    refine XS.iloadN X46.here hx rfl (hb hby d6_9) rfl ?_
    show Steps p.tables e below (T46.setTop (mkF m 10 #[.val (.ref a0), .val (.ref a1), .val (.ref b3), .val (.int (2 : Int32)), .val (.int (0 : Int32)), .val (.double r0), .second, .val (.int (0 : Int32)), .unset, .unset] [(.int (2 : Int32))])) _
    refine XS.aloadN X46.here hx rfl (hb hby d6_10) rfl rfl ?_
    show Steps p.tables e below (T46.setTop (mkF m 11 #[.val (.ref a0), .val (.ref a1), .val (.ref b3), .val (.int (2 : Int32)), .val (.int (0 : Int32)), .val (.double r0), .second, .val (.int (0 : Int32)), .unset, .unset] [(.ref a0), (.int (2 : Int32))])) _
    exact kt
  have f49 := (f27.other W46 (Or.inl ne_a0_b3))
  obtain ⟨T50, X50, e50, st50⟩ := getF X46 hx hZ hown (host := "") (Or.inl (hw _ (List.mem_of_getElem? (i := 41) rfl))) Via.refl e46 f49 (g := (mkF m 11 #[.val (.ref a0), .val (.ref a1), .val (.ref b3), .val (.int (2 : Int32)), .val (.int (0 : Int32)), .val (.double r0), .second, .val (.int (0 : Int32)), .unset, .unset] [(.ref a0), (.int (2 : Int32))])) rfl rfl (hb hby d6_11)
  have K50 : ∀ t, Steps p.tables e below (T50.setTop (mkF m 14 #[.val (.ref a0), .val (.ref a1), .val (.ref b3), .val (.int (2 : Int32)), .val (.int (0 : Int32)), .val (.double r0), .second, .val (.int (0 : Int32)), .unset, .unset] [(.int (2 : Int32)), (.int (2 : Int32))])) t → Steps p.tables e below G0 t := fun t kt => K48 t (st50 _ kt)
  have K51 : ∀ t, Steps p.tables e below (T50.setTop (mkF m 92 #[.val (.ref a0), .val (.ref a1), .val (.ref b3), .val (.int (2 : Int32)), .val (.int (0 : Int32)), .val (.double r0), .second, .val (.int (0 : Int32)), .unset, .unset] [(.ref a0)])) t → Steps p.tables e below G0 t := by
    intro t kt
    refine K50 t ?_
    refine XS.icmpYes X50.here hx rfl (pc0 := 14) (pc' := 91) rfl (hb hby d6_14) rfl (flt (by decide)).2.1 (by decide) (by decide) ?_
    show Steps p.tables e below (T50.setTop (mkF m 91 #[.val (.ref a0), .val (.ref a1), .val (.ref b3), .val (.int (2 : Int32)), .val (.int (0 : Int32)), .val (.double r0), .second, .val (.int (0 : Int32)), .unset, .unset] [])) _
    refine XS.aloadN X50.here hx rfl (hb hby d6_91) rfl rfl ?_
    show Steps p.tables e below (T50.setTop (mkF m 92 #[.val (.ref a0), .val (.ref a1), .val (.ref b3), .val (.int (2 : Int32)), .val (.int (0 : Int32)), .val (.double r0), .second, .val (.int (0 : Int32)), .unset, .unset] [(.ref a0)])) _
    exact kt
  have f52 := (((fc_1.ext E3).other W24 (Or.inl ne_a0_b3)).other W46 (Or.inl ne_a0_b3))
  obtain ⟨T53, X53, e53, st53⟩ := getF X50 hx hZ hown (host := "") (Or.inl (hw _ (List.mem_of_getElem? (i := 9) rfl))) Via.refl e50 f52 (g := (mkF m 92 #[.val (.ref a0), .val (.ref a1), .val (.ref b3), .val (.int (2 : Int32)), .val (.int (0 : Int32)), .val (.double r0), .second, .val (.int (0 : Int32)), .unset, .unset] [(.ref a0)])) rfl rfl (hb hby d6_92)
  have K53 : ∀ t, Steps p.tables e below (T53.setTop (mkF m 95 #[.val (.ref a0), .val (.ref a1), .val (.ref b3), .val (.int (2 : Int32)), .val (.int (0 : Int32)), .val (.double r0), .second, .val (.int (0 : Int32)), .unset, .unset] [(.int (2 : Int32))])) t → Steps p.tables e below G0 t := fun t kt => K51 t (st53 _ kt)
  have f54 := (((fc_0.ext E3).wr W24).wr W46)
  have f55 := (((fc_10.ext E3).other W24 ne_rb_b3).other W46 ne_rb_b3)
  have f56 := (((fc_11.ext E3).other W24 ne_ml_b3).other W46 ne_ml_b3)
  have f57 := (f42.other W46 ne_ln_b3)
  have f58 := (f33.other W46 ne_pe_b3)
  have f59 := (((fc_14.ext E3).other W24 ne_pu_b3).other W46 ne_pu_b3)
  have f60 := (((fc_15.ext E3).other W24 ne_pc_b3).other W46 ne_pc_b3)
  have f61 := (f36.other W46 ne_a1_b3)
  have f62 := (((V_u0.ext E3).other W24 ne_u0_b3).other W46 ne_u0_b3)
  have f63 := (((V_u1.ext E3).other W24 ne_u1_b3).other W46 ne_u1_b3)
  have f64 := (((V_k0.ext E3).other W24 ne_k0_b3).other W46 ne_k0_b3)
  have f65 := (((V_k1.ext E3).other W24 ne_k1_b3).other W46 ne_k1_b3)
  obtain ⟨T66, h66, k66, X66, e66, E66, A66, EA66, st66⟩ := newPE X53 hx hZ (hw _ (List.mem_of_getElem? (i := 35) rfl)) e53 (g := (mkF m 95 #[.val (.ref a0), .val (.ref a1), .val (.ref b3), .val (.int (2 : Int32)), .val (.int (0 : Int32)), .val (.double r0), .second, .val (.int (0 : Int32)), .unset, .unset] [(.int (2 : Int32))])) rfl (hb hby d6_95) rfl (by decide) (cap := 2) (by decide) (by decide) (by decide) (by decide) (ad := "[D") (by decide)
  obtain ⟨b66, g66⟩ : ∃ z, z = h46.size := ⟨_, rfl⟩
  rw [← g66] at A66 EA66 st66
  have V66 := Arv.new A66 (by decide)
  have gn66 : n0 ≤ b66 := Nat.le_trans Z46 (Nat.le_of_eq g66.symm)
  have Z66 : n0 ≤ h66.size := Nat.le_trans Z46 E66.1
  have K66 : ∀ t, Steps p.tables e below (T66.setTop (mkF m 97 #[.val (.ref a0), .val (.ref a1), .val (.ref b3), .val (.int (2 : Int32)), .val (.int (0 : Int32)), .val (.double r0), .second, .val (.int (0 : Int32)), .unset, .unset] [(.ref b66)])) t → Steps p.tables e below G0 t := fun t kt => K53 t (st66 _ kt)
  have ne_a0_b66 : a0 ≠ b66 := Nat.ne_of_lt (Nat.lt_of_lt_of_le (f54).lt (Nat.le_of_eq g66.symm))
  have ne_rb_b66 : rb ≠ b66 := Nat.ne_of_lt (Nat.lt_of_lt_of_le (f55).lt (Nat.le_of_eq g66.symm))
  have ne_ml_b66 : ml ≠ b66 := Nat.ne_of_lt (Nat.lt_of_lt_of_le (f56).lt (Nat.le_of_eq g66.symm))
  have ne_ln_b66 : ln ≠ b66 := Nat.ne_of_lt (Nat.lt_of_lt_of_le (f57).lt (Nat.le_of_eq g66.symm))
  have ne_pe_b66 : pe ≠ b66 := Nat.ne_of_lt (Nat.lt_of_lt_of_le (f58).lt (Nat.le_of_eq g66.symm))
  have ne_pu_b66 : pu ≠ b66 := Nat.ne_of_lt (Nat.lt_of_lt_of_le (f59).lt (Nat.le_of_eq g66.symm))
  have ne_pc_b66 : pc ≠ b66 := Nat.ne_of_lt (Nat.lt_of_lt_of_le (f60).lt (Nat.le_of_eq g66.symm))
  have ne_a1_b66 : a1 ≠ b66 := Nat.ne_of_lt (Nat.lt_of_lt_of_le (f61).lt (Nat.le_of_eq g66.symm))
  have ne_u0_b66 : u0 ≠ b66 := Nat.ne_of_lt (Nat.lt_of_lt_of_le (f62).lt (Nat.le_of_eq g66.symm))
  have ne_u1_b66 : u1 ≠ b66 := Nat.ne_of_lt (Nat.lt_of_lt_of_le (f63).lt (Nat.le_of_eq g66.symm))
  have ne_k0_b66 : k0 ≠ b66 := Nat.ne_of_lt (Nat.lt_of_lt_of_le (f64).lt (Nat.le_of_eq g66.symm))
  have ne_k1_b66 : k1 ≠ b66 := Nat.ne_of_lt (Nat.lt_of_lt_of_le (f65).lt (Nat.le_of_eq g66.symm))
  have ne_b3_b66 : b3 ≠ b66 := Nat.ne_of_lt (Nat.lt_of_lt_of_le (VL46).lt (Nat.le_of_eq g66.symm))
  have VL66 : Arv Z h66 b66 k66 .double (2 : Int32) [(.double 0), (.double 0)] (.double 0) := V66.pad (pad_rep [] (.double 0) 2)
  have K67 : ∀ t, Steps p.tables e below (T66.setTop (mkF m 99 #[.val (.ref a0), .val (.ref a1), .val (.ref b3), .val (.ref b66), .val (.int (0 : Int32)), .val (.double r0), .second, .val (.int (0 : Int32)), .unset, .unset] [(.ref a0)])) t → Steps p.tables e below G0 t := by
    intro t kt
    refine K66 t ?_
    refine XS.astoreN X66.here hx rfl (hb hby d6_97) rfl rfl (l' := #[.val (.ref a0), .val (.ref a1), .val (.ref b3), .val (.ref b66), .val (.int (0 : Int32)), .val (.double r0), .second, .val (.int (0 : Int32)), .unset, .unset]) rfl ?_
    show Steps p.tables e below (T66.setTop (mkF m 98 #[.val (.ref a0), .val (.ref a1), .val (.ref b3), .val (.ref b66), .val (.int (0 : Int32)), .val (.double r0), .second, .val (.int (0 : Int32)), .unset, .unset] [])) _
    refine XS.aloadN X66.here hx rfl (hb hby d6_98) rfl rfl ?_
    show Steps p.tables e below (T66.setTop (mkF m 99 #[.val (.ref a0), .val (.ref a1), .val (.ref b3), .val (.ref b66), .val (.int (0 : Int32)), .val (.double r0), .second, .val (.int (0 : Int32)), .unset, .unset] [(.ref a0)])) _
    exact kt
  have f68 := (f49.ext E66)
  obtain ⟨T69, X69, e69, st69⟩ := getF X66 hx hZ hown (host := "") (Or.inl (hw _ (List.mem_of_getElem? (i := 41) rfl))) Via.refl e66 f68 (g := (mkF m 99 #[.val (.ref a0), .val (.ref a1), .val (.ref b3), .val (.ref b66), .val (.int (0 : Int32)), .val (.double r0), .second, .val (.int (0 : Int32)), .unset, .unset] [(.ref a0)])) rfl rfl (hb hby d6_99)
  have K69 : ∀ t, Steps p.tables e below (T69.setTop (mkF m 102 #[.val (.ref a0), .val (.ref a1), .val (.ref b3), .val (.ref b66), .val (.int (0 : Int32)), .val (.double r0), .second, .val (.int (0 : Int32)), .unset, .unset] [(.int (2 : Int32))])) t → Steps p.tables e below G0 t := fun t kt => K67 t (st69 _ kt)
  have K70 : ∀ t, Steps p.tables e below (T69.setTop (mkF m 106 #[.val (.ref a0), .val (.ref a1), .val (.ref b3), .val (.ref b66), .val (.int ((2 : Int32) - (1 : Int32))), .val (.double r0), .second, .val (.int (0 : Int32)), .unset, .unset] [])) t → Steps p.tables e below G0 t := by
    intro t kt
    refine K69 t ?_
    refine XS.iconst X69.here hx rfl (hb hby d6_102) ?_
    show Steps p.tables e below (T69.setTop (mkF m 103 #[.val (.ref a0), .val (.ref a1), .val (.ref b3), .val (.ref b66), .val (.int (0 : Int32)), .val (.double r0), .second, .val (.int (0 : Int32)), .unset, .unset] [(.int (1 : Int32)), (.int (2 : Int32))])) _
    refine XS.isub X69.here hx rfl (hb hby d6_103) rfl ?_
    show Steps p.tables e below (T69.setTop (mkF m 104 #[.val (.ref a0), .val (.ref a1), .val (.ref b3), .val (.ref b66), .val (.int (0 : Int32)), .val (.double r0), .second, .val (.int (0 : Int32)), .unset, .unset] [(.int ((2 : Int32) - (1 : Int32)))])) _
    refine XS.istore X69.here hx rfl (hb hby d6_104) rfl (l' := #[.val (.ref a0), .val (.ref a1), .val (.ref b3), .val (.ref b66), .val (.int ((2 : Int32) - (1 : Int32))), .val (.double r0), .second, .val (.int (0 : Int32)), .unset, .unset]) rfl ?_
    show Steps p.tables e below (T69.setTop (mkF m 106 #[.val (.ref a0), .val (.ref a1), .val (.ref b3), .val (.ref b66), .val (.int ((2 : Int32) - (1 : Int32))), .val (.double r0), .second, .val (.int (0 : Int32)), .unset, .unset] [])) _
    exact kt
  rw [show ((2 : Int32) - (1 : Int32)) = (1 : Int32) from by decide] at K70
  have K71 : ∀ t, Steps p.tables e below (T69.setTop (mkF m 112 #[.val (.ref a0), .val (.ref a1), .val (.ref b3), .val (.ref b66), .val (.int (1 : Int32)), .val (.double r0), .second, .val (.int (0 : Int32)), .unset, .unset] [(.ref a0)])) t → Steps p.tables e below G0 t := by
    intro t kt
    refine K70 t ?_
    refine XS.iload X69.here hx rfl (hb hby d6_106) rfl ?_
    show Steps p.tables e below (T69.setTop (mkF m 108 #[.val (.ref a0), .val (.ref a1), .val (.ref b3), .val (.ref b66), .val (.int (1 : Int32)), .val (.double r0), .second, .val (.int (0 : Int32)), .unset, .unset] [(.int (1 : Int32))])) _
    refine XS.ifNo X69.here hx rfl (hb hby d6_108) rfl ((if0 _ _).trans (flt (by decide)).1) ?_
    show Steps p.tables e below (T69.setTop (mkF m 111 #[.val (.ref a0), .val (.ref a1), .val (.ref b3), .val (.ref b66), .val (.int (1 : Int32)), .val (.double r0), .second, .val (.int (0 : Int32)), .unset, .unset] [])) _
    refine XS.aloadN X69.here hx rfl (hb hby d6_111) rfl rfl ?_
    show Steps p.tables e below (T69.setTop (mkF m 112 #[.val (.ref a0), .val (.ref a1), .val (.ref b3), .val (.ref b66), .val (.int (1 : Int32)), .val (.double r0), .second, .val (.int (0 : Int32)), .unset, .unset] [(.ref a0)])) _
    exact kt
  have f72 := ((((fc_8.ext E3).other W24 (Or.inl ne_a0_b3)).other W46 (Or.inl ne_a0_b3)).ext E66)
  obtain ⟨T73, X73, e73, st73⟩ := getF X69 hx hZ hown (host := "") (Or.inl (hw _ (List.mem_of_getElem? (i := 31) rfl))) Via.refl e69 f72 (g := (mkF m 112 #[.val (.ref a0), .val (.ref a1), .val (.ref b3), .val (.ref b66), .val (.int (1 : Int32)), .val (.double r0), .second, .val (.int (0 : Int32)), .unset, .unset] [(.ref a0)])) rfl rfl (hb hby d6_112)
  have K73 : ∀ t, Steps p.tables e below (T73.setTop (mkF m 115 #[.val (.ref a0), .val (.ref a1), .val (.ref b3), .val (.ref b66), .val (.int (1 : Int32)), .val (.double r0), .second, .val (.int (0 : Int32)), .unset, .unset] [(.ref pu)])) t → Steps p.tables e below G0 t := fun t kt => K71 t (st73 _ kt)
  have K74 : ∀ t, Steps p.tables e below (T73.setTop (mkF m 117 #[.val (.ref a0), .val (.ref a1), .val (.ref b3), .val (.ref b66), .val (.int (1 : Int32)), .val (.double r0), .second, .val (.int (0 : Int32)), .unset, .unset] [(.int (1 : Int32)), (.ref pu)])) t → Steps p.tables e below G0 t := by
    intro t kt
    refine K73 t ?_
    refine XS.iload X73.here hx rfl (hb hby d6_115) rfl ?_
    show Steps p.tables e below (T73.setTop (mkF m 117 #[.val (.ref a0), .val (.ref a1), .val (.ref b3), .val (.ref b66), .val (.int (1 : Int32)), .val (.double r0), .second, .val (.int (0 : Int32)), .unset, .unset] [(.int (1 : Int32)), (.ref pu)])) _
    exact kt
  have f75 := (f59.ext E66)
  obtain ⟨cl76, Ar76, qq76, S76, M76, H76, GG76⟩ := id f75
  have hin76 : ¬ ((1 : Int32) < 0 ∨ cl76.slots.size ≤ ((1 : Int32)).toNatClampNeg) := inb_of S76 ⟨by decide, by decide⟩
  have hat76 : cl76.slots[((1 : Int32)).toNatClampNeg]? = some (.ref u1) := Has.at H76 hin76 rfl
  have K77 : ∀ t, Steps p.tables e below (T73.setTop (mkF m 121 #[.val (.ref a0), .val (.ref a1), .val (.ref b3), .val (.ref b66), .val (.int (1 : Int32)), .val (.ref u1), .unset, .val (.int (0 : Int32)), .unset, .unset] [(.ref a0)])) t → Steps p.tables e below G0 t := by
    intro t kt
    refine K74 t ?_
    refine X73.aaload hx (j := (1 : Int32)) (v := (.ref u1)) (by rw [e73]; exact (Ar76).1) (State.isArrayOf_alike hZ.alike (Ar76).2.1) rfl (Ar76).2.2 hin76 hat76 (g := (mkF m 117 #[.val (.ref a0), .val (.ref a1), .val (.ref b3), .val (.ref b66), .val (.int (1 : Int32)), .val (.double r0), .second, .val (.int (0 : Int32)), .unset, .unset] [(.int (1 : Int32)), (.ref pu)])) rfl rfl (hb hby d6_117) _ ?_
    show Steps p.tables e below (T73.setTop (mkF m 118 #[.val (.ref a0), .val (.ref a1), .val (.ref b3), .val (.ref b66), .val (.int (1 : Int32)), .val (.double r0), .second, .val (.int (0 : Int32)), .unset, .unset] [(.ref u1)])) _
    refine XS.astore X73.here hx rfl (hb hby d6_118) rfl rfl (l' := #[.val (.ref a0), .val (.ref a1), .val (.ref b3), .val (.ref b66), .val (.int (1 : Int32)), .val (.ref u1), .unset, .val (.int (0 : Int32)), .unset, .unset]) rfl ?_
    show Steps p.tables e below (T73.setTop (mkF m 120 #[.val (.ref a0), .val (.ref a1), .val (.ref b3), .val (.ref b66), .val (.int (1 : Int32)), .val (.ref u1), .unset, .val (.int (0 : Int32)), .unset, .unset] [])) _
    refine XS.aloadN X73.here hx rfl (hb hby d6_120) rfl rfl ?_
    show Steps p.tables e below (T73.setTop (mkF m 121 #[.val (.ref a0), .val (.ref a1), .val (.ref b3), .val (.ref b66), .val (.int (1 : Int32)), .val (.ref u1), .unset, .val (.int (0 : Int32)), .unset, .unset] [(.ref a0)])) _
    exact kt
  have f78 := ((((fc_9.ext E3).other W24 (Or.inl ne_a0_b3)).other W46 (Or.inl ne_a0_b3)).ext E66)
  obtain ⟨T79, X79, e79, st79⟩ := getF X73 hx hZ hown (host := "") (Or.inl (hw _ (List.mem_of_getElem? (i := 33) rfl))) Via.refl e73 f78 (g := (mkF m 121 #[.val (.ref a0), .val (.ref a1), .val (.ref b3), .val (.ref b66), .val (.int (1 : Int32)), .val (.ref u1), .unset, .val (.int (0 : Int32)), .unset, .unset] [(.ref a0)])) rfl rfl (hb hby d6_121)
  have K79 : ∀ t, Steps p.tables e below (T79.setTop (mkF m 124 #[.val (.ref a0), .val (.ref a1), .val (.ref b3), .val (.ref b66), .val (.int (1 : Int32)), .val (.ref u1), .unset, .val (.int (0 : Int32)), .unset, .unset] [(.ref pc)])) t → Steps p.tables e below G0 t := fun t kt => K77 t (st79 _ kt)
  have K80 : ∀ t, Steps p.tables e below (T79.setTop (mkF m 126 #[.val (.ref a0), .val (.ref a1), .val (.ref b3), .val (.ref b66), .val (.int (1 : Int32)), .val (.ref u1), .unset, .val (.int (0 : Int32)), .unset, .unset] [(.int (1 : Int32)), (.ref pc)])) t → Steps p.tables e below G0 t := by
    intro t kt
    refine K79 t ?_
    refine XS.iload X79.here hx rfl (hb hby d6_124) rfl ?_
    show Steps p.tables e below (T79.setTop (mkF m 126 #[.val (.ref a0), .val (.ref a1), .val (.ref b3), .val (.ref b66), .val (.int (1 : Int32)), .val (.ref u1), .unset, .val (.int (0 : Int32)), .unset, .unset] [(.int (1 : Int32)), (.ref pc)])) _
    exact kt
  have f81 := (f60.ext E66)
  obtain ⟨cl82, Ar82, qq82, S82, M82, H82, GG82⟩ := id f81
  have hin82 : ¬ ((1 : Int32) < 0 ∨ cl82.slots.size ≤ ((1 : Int32)).toNatClampNeg) := inb_of S82 ⟨by decide, by decide⟩
  have hat82 : cl82.slots[((1 : Int32)).toNatClampNeg]? = some (.ref k1) := Has.at H82 hin82 rfl
  have K83 : ∀ t, Steps p.tables e below (T79.setTop (mkF m 132 #[.val (.ref a0), .val (.ref a1), .val (.ref b3), .val (.ref b66), .val (.int (1 : Int32)), .val (.ref u1), .val (.ref k1), .val (.int (0 : Int32)), .unset, .unset] [(.int (1 : Int32)), (.ref b3)])) t → Steps p.tables e below G0 t := by
    intro t kt
    refine K80 t ?_
    refine X79.aaload hx (j := (1 : Int32)) (v := (.ref k1)) (by rw [e79]; exact (Ar82).1) (State.isArrayOf_alike hZ.alike (Ar82).2.1) rfl (Ar82).2.2 hin82 hat82 (g := (mkF m 126 #[.val (.ref a0), .val (.ref a1), .val (.ref b3), .val (.ref b66), .val (.int (1 : Int32)), .val (.ref u1), .unset, .val (.int (0 : Int32)), .unset, .unset] [(.int (1 : Int32)), (.ref pc)])) rfl rfl (hb hby d6_126) _ ?_
    show Steps p.tables e below (T79.setTop (mkF m 127 #[.val (.ref a0), .val (.ref a1), .val (.ref b3), .val (.ref b66), .val (.int (1 : Int32)), .val (.ref u1), .unset, .val (.int (0 : Int32)), .unset, .unset] [(.ref k1)])) _
    refine XS.astore X79.here hx rfl (hb hby d6_127) rfl rfl (l' := #[.val (.ref a0), .val (.ref a1), .val (.ref b3), .val (.ref b66), .val (.int (1 : Int32)), .val (.ref u1), .val (.ref k1), .val (.int (0 : Int32)), .unset, .unset]) rfl ?_
    show Steps p.tables e below (T79.setTop (mkF m 129 #[.val (.ref a0), .val (.ref a1), .val (.ref b3), .val (.ref b66), .val (.int (1 : Int32)), .val (.ref u1), .val (.ref k1), .val (.int (0 : Int32)), .unset, .unset] [])) _
    refine XS.aloadN X79.here hx rfl (hb hby d6_129) rfl rfl ?_
    show Steps p.tables e below (T79.setTop (mkF m 130 #[.val (.ref a0), .val (.ref a1), .val (.ref b3), .val (.ref b66), .val (.int (1 : Int32)), .val (.ref u1), .val (.ref k1), .val (.int (0 : Int32)), .unset, .unset] [(.ref b3)])) _
    refine XS.iload X79.here hx rfl (hb hby d6_130) rfl ?_
    show Steps p.tables e below (T79.setTop (mkF m 132 #[.val (.ref a0), .val (.ref a1), .val (.ref b3), .val (.ref b66), .val (.int (1 : Int32)), .val (.ref u1), .val (.ref k1), .val (.int (0 : Int32)), .unset, .unset] [(.int (1 : Int32)), (.ref b3)])) _
    exact kt
  have f84 := (VL46.ext E66)
  obtain ⟨cl85, Ar85, qq85, S85, M85, H85, GG85⟩ := id f84
  have hin85 : ¬ ((1 : Int32) < 0 ∨ cl85.slots.size ≤ ((1 : Int32)).toNatClampNeg) := inb_of S85 ⟨by decide, by decide⟩
  have hat85 : cl85.slots[((1 : Int32)).toNatClampNeg]? = some (.double r0) := Has.at H85 hin85 rfl
  have K86 : ∀ t, Steps p.tables e below (T79.setTop (mkF m 142 #[.val (.ref a0), .val (.ref a1), .val (.ref b3), .val (.ref b66), .val (.int (1 : Int32)), .val (.ref u1), .val (.ref k1), .val (.double r0), .second, .val (.int (1 : Int32))] [(.ref u1), (.int (1 : Int32))])) t → Steps p.tables e below G0 t := by
    intro t kt
    refine K83 t ?_
    refine X79.daload hx (j := (1 : Int32)) (v := (.double r0)) (by rw [e79]; exact (Ar85).1) (State.isArrayOf_alike hZ.alike (Ar85).2.1) (Ar85).2.2 hin85 hat85 (g := (mkF m 132 #[.val (.ref a0), .val (.ref a1), .val (.ref b3), .val (.ref b66), .val (.int (1 : Int32)), .val (.ref u1), .val (.ref k1), .val (.int (0 : Int32)), .unset, .unset] [(.int (1 : Int32)), (.ref b3)])) rfl rfl (hb hby d6_132) _ ?_
    show Steps p.tables e below (T79.setTop (mkF m 133 #[.val (.ref a0), .val (.ref a1), .val (.ref b3), .val (.ref b66), .val (.int (1 : Int32)), .val (.ref u1), .val (.ref k1), .val (.int (0 : Int32)), .unset, .unset] [(.double r0)])) _
    refine XS.dstore X79.here hx rfl (hb hby d6_133) rfl (l' := #[.val (.ref a0), .val (.ref a1), .val (.ref b3), .val (.ref b66), .val (.int (1 : Int32)), .val (.ref u1), .val (.ref k1), .val (.double r0), .second, .unset]) rfl ?_
    show Steps p.tables e below (T79.setTop (mkF m 135 #[.val (.ref a0), .val (.ref a1), .val (.ref b3), .val (.ref b66), .val (.int (1 : Int32)), .val (.ref u1), .val (.ref k1), .val (.double r0), .second, .unset] [])) _
    refine XS.iconst X79.here hx rfl (hb hby d6_135) ?_
    show Steps p.tables e below (T79.setTop (mkF m 136 #[.val (.ref a0), .val (.ref a1), .val (.ref b3), .val (.ref b66), .val (.int (1 : Int32)), .val (.ref u1), .val (.ref k1), .val (.double r0), .second, .unset] [(.int (1 : Int32))])) _
    refine XS.istore X79.here hx rfl (hb hby d6_136) rfl (l' := #[.val (.ref a0), .val (.ref a1), .val (.ref b3), .val (.ref b66), .val (.int (1 : Int32)), .val (.ref u1), .val (.ref k1), .val (.double r0), .second, .val (.int (1 : Int32))]) rfl ?_
    show Steps p.tables e below (T79.setTop (mkF m 138 #[.val (.ref a0), .val (.ref a1), .val (.ref b3), .val (.ref b66), .val (.int (1 : Int32)), .val (.ref u1), .val (.ref k1), .val (.double r0), .second, .val (.int (1 : Int32))] [])) _
    refine XS.iload X79.here hx rfl (hb hby d6_138) rfl ?_
    show Steps p.tables e below (T79.setTop (mkF m 140 #[.val (.ref a0), .val (.ref a1), .val (.ref b3), .val (.ref b66), .val (.int (1 : Int32)), .val (.ref u1), .val (.ref k1), .val (.double r0), .second, .val (.int (1 : Int32))] [(.int (1 : Int32))])) _
    refine XS.aload X79.here hx rfl (hb hby d6_140) rfl rfl ?_
    show Steps p.tables e below (T79.setTop (mkF m 142 #[.val (.ref a0), .val (.ref a1), .val (.ref b3), .val (.ref b66), .val (.int (1 : Int32)), .val (.ref u1), .val (.ref k1), .val (.double r0), .second, .val (.int (1 : Int32))] [(.ref u1), (.int (1 : Int32))])) _
    exact kt
  have f87 := (f63.ext E66)
  obtain ⟨cl88, Ar88, qq88, S88, M88, H88, GG88⟩ := id f87
  have K89 : ∀ t, Steps p.tables e below (T79.setTop (mkF m 174 #[.val (.ref a0), .val (.ref a1), .val (.ref b3), .val (.ref b66), .val (.int (1 : Int32)), .val (.ref u1), .val (.ref k1), .val (.double r0), .second, .val (.int (1 : Int32))] [(.int (0 : Int32)), (.ref u1), (.ref b66)])) t → Steps p.tables e below G0 t := by
    intro t kt
    refine K86 t ?_
    refine X79.arraylength hx (by rw [e79]; exact (Ar88).1) (State.isArrayOf_alike hZ.alike (Ar88).2.1) (g := (mkF m 142 #[.val (.ref a0), .val (.ref a1), .val (.ref b3), .val (.ref b66), .val (.int (1 : Int32)), .val (.ref u1), .val (.ref k1), .val (.double r0), .second, .val (.int (1 : Int32))] [(.ref u1), (.int (1 : Int32))])) rfl rfl (hb hby d6_142) _ ?_
    rw [len_of S88 M88]
    show Steps p.tables e below (T79.setTop (mkF m 143 #[.val (.ref a0), .val (.ref a1), .val (.ref b3), .val (.ref b66), .val (.int (1 : Int32)), .val (.ref u1), .val (.ref k1), .val (.double r0), .second, .val (.int (1 : Int32))] [(.int (1 : Int32)), (.int (1 : Int32))])) _
    refine XS.icmpYes X79.here hx rfl (pc0 := 143) (pc' := 170) rfl (hb hby d6_143) rfl (flt (by decide)).2.1 (by decide) (by decide) ?_
    show Steps p.tables e below (T79.setTop (mkF m 170 #[.val (.ref a0), .val (.ref a1), .val (.ref b3), .val (.ref b66), .val (.int (1 : Int32)), .val (.ref u1), .val (.ref k1), .val (.double r0), .second, .val (.int (1 : Int32))] [])) _
    refine XS.aloadN X79.here hx rfl (hb hby d6_170) rfl rfl ?_
    show Steps p.tables e below (T79.setTop (mkF m 171 #[.val (.ref a0), .val (.ref a1), .val (.ref b3), .val (.ref b66), .val (.int (1 : Int32)), .val (.ref u1), .val (.ref k1), .val (.double r0), .second, .val (.int (1 : Int32))] [(.ref b66)])) _
    refine XS.aload X79.here hx rfl (hb hby d6_171) rfl rfl ?_
    show Steps p.tables e below (T79.setTop (mkF m 173 #[.val (.ref a0), .val (.ref a1), .val (.ref b3), .val (.ref b66), .val (.int (1 : Int32)), .val (.ref u1), .val (.ref k1), .val (.double r0), .second, .val (.int (1 : Int32))] [(.ref u1), (.ref b66)])) _
    refine XS.iconst X79.here hx rfl (hb hby d6_173) ?_
    show Steps p.tables e below (T79.setTop (mkF m 174 #[.val (.ref a0), .val (.ref a1), .val (.ref b3), .val (.ref b66), .val (.int (1 : Int32)), .val (.ref u1), .val (.ref k1), .val (.double r0), .second, .val (.int (1 : Int32))] [(.int (0 : Int32)), (.ref u1), (.ref b66)])) _
    exact kt
  obtain ⟨cl90, Ar90, qq90, S90, M90, H90, GG90⟩ := id f87
  have hin90 : ¬ ((0 : Int32) < 0 ∨ cl90.slots.size ≤ ((0 : Int32)).toNatClampNeg) := inb_of S90 ⟨by decide, by decide⟩
  have hat90 : cl90.slots[((0 : Int32)).toNatClampNeg]? = some (.int (1 : Int32)) := Has.at H90 hin90 rfl
  have K91 : ∀ t, Steps p.tables e below (T79.setTop (mkF m 180 #[.val (.ref a0), .val (.ref a1), .val (.ref b3), .val (.ref b66), .val (.int (1 : Int32)), .val (.ref u1), .val (.ref k1), .val (.double r0), .second, .val (.int (1 : Int32))] [(.int (0 : Int32)), (.ref k1), (.double r0), (.int (1 : Int32)), (.ref b66)])) t → Steps p.tables e below G0 t := by
    intro t kt
    refine K89 t ?_
    refine X79.iaload hx (j := (0 : Int32)) (v := (.int (1 : Int32))) (by rw [e79]; exact (Ar90).1) (State.isArrayOf_alike hZ.alike (Ar90).2.1) (Ar90).2.2 hin90 hat90 (g := (mkF m 174 #[.val (.ref a0), .val (.ref a1), .val (.ref b3), .val (.ref b66), .val (.int (1 : Int32)), .val (.ref u1), .val (.ref k1), .val (.double r0), .second, .val (.int (1 : Int32))] [(.int (0 : Int32)), (.ref u1), (.ref b66)])) rfl rfl (hb hby d6_174) _ ?_
    show Steps p.tables e below (T79.setTop (mkF m 175 #[.val (.ref a0), .val (.ref a1), .val (.ref b3), .val (.ref b66), .val (.int (1 : Int32)), .val (.ref u1), .val (.ref k1), .val (.double r0), .second, .val (.int (1 : Int32))] [(.int (1 : Int32)), (.ref b66)])) _
    refine XS.dload X79.here hx rfl (hb hby d6_175) rfl ?_
    show Steps p.tables e below (T79.setTop (mkF m 177 #[.val (.ref a0), .val (.ref a1), .val (.ref b3), .val (.ref b66), .val (.int (1 : Int32)), .val (.ref u1), .val (.ref k1), .val (.double r0), .second, .val (.int (1 : Int32))] [(.double r0), (.int (1 : Int32)), (.ref b66)])) _
    refine XS.aload X79.here hx rfl (hb hby d6_177) rfl rfl ?_
    show Steps p.tables e below (T79.setTop (mkF m 179 #[.val (.ref a0), .val (.ref a1), .val (.ref b3), .val (.ref b66), .val (.int (1 : Int32)), .val (.ref u1), .val (.ref k1), .val (.double r0), .second, .val (.int (1 : Int32))] [(.ref k1), (.double r0), (.int (1 : Int32)), (.ref b66)])) _
    refine XS.iconst X79.here hx rfl (hb hby d6_179) ?_
    show Steps p.tables e below (T79.setTop (mkF m 180 #[.val (.ref a0), .val (.ref a1), .val (.ref b3), .val (.ref b66), .val (.int (1 : Int32)), .val (.ref u1), .val (.ref k1), .val (.double r0), .second, .val (.int (1 : Int32))] [(.int (0 : Int32)), (.ref k1), (.double r0), (.int (1 : Int32)), (.ref b66)])) _
    exact kt
  have f92 := (f65.ext E66)
  obtain ⟨cl93, Ar93, qq93, S93, M93, H93, GG93⟩ := id f92
  have hin93 : ¬ ((0 : Int32) < 0 ∨ cl93.slots.size ≤ ((0 : Int32)).toNatClampNeg) := inb_of S93 ⟨by decide, by decide⟩
  have hat93 : cl93.slots[((0 : Int32)).toNatClampNeg]? = some (.double dd) := Has.at H93 hin93 rfl
  have K94 : ∀ t, Steps p.tables e below (T79.setTop (mkF m 182 #[.val (.ref a0), .val (.ref a1), .val (.ref b3), .val (.ref b66), .val (.int (1 : Int32)), .val (.ref u1), .val (.ref k1), .val (.double r0), .second, .val (.int (1 : Int32))] [(.double (FP.ddiv r0 dd)), (.int (1 : Int32)), (.ref b66)])) t → Steps p.tables e below G0 t := by
    intro t kt
    refine K91 t ?_
    refine X79.daload hx (j := (0 : Int32)) (v := (.double dd)) (by rw [e79]; exact (Ar93).1) (State.isArrayOf_alike hZ.alike (Ar93).2.1) (Ar93).2.2 hin93 hat93 (g := (mkF m 180 #[.val (.ref a0), .val (.ref a1), .val (.ref b3), .val (.ref b66), .val (.int (1 : Int32)), .val (.ref u1), .val (.ref k1), .val (.double r0), .second, .val (.int (1 : Int32))] [(.int (0 : Int32)), (.ref k1), (.double r0), (.int (1 : Int32)), (.ref b66)])) rfl rfl (hb hby d6_180) _ ?_
    show Steps p.tables e below (T79.setTop (mkF m 181 #[.val (.ref a0), .val (.ref a1), .val (.ref b3), .val (.ref b66), .val (.int (1 : Int32)), .val (.ref u1), .val (.ref k1), .val (.double r0), .second, .val (.int (1 : Int32))] [(.double dd), (.double r0), (.int (1 : Int32)), (.ref b66)])) _
    refine XS.ddivS X79.here hx rfl (hb hby d6_181) rfl hn1 rfl ?_
    show Steps p.tables e below (T79.setTop (mkF m 182 #[.val (.ref a0), .val (.ref a1), .val (.ref b3), .val (.ref b66), .val (.int (1 : Int32)), .val (.ref u1), .val (.ref k1), .val (.double r0), .second, .val (.int (1 : Int32))] [(.double (FP.ddiv r0 dd)), (.int (1 : Int32)), (.ref b66)])) _
    exact kt
  obtain ⟨cl95, Ar95, qq95, S95, M95, H95, GG95⟩ := id VL66
  have hin95 : ¬ ((1 : Int32) < 0 ∨ cl95.slots.size ≤ ((1 : Int32)).toNatClampNeg) := inb_of S95 ⟨by decide, by decide⟩
  obtain ⟨T96, h96, X96, e96, W96, st96⟩ := stD X79 hx hZ e79 Ar95 (j := (1 : Int32)) hin95 (g := (mkF m 182 #[.val (.ref a0), .val (.ref a1), .val (.ref b3), .val (.ref b66), .val (.int (1 : Int32)), .val (.ref u1), .val (.ref k1), .val (.double r0), .second, .val (.int (1 : Int32))] [(.double (FP.ddiv r0 dd)), (.int (1 : Int32)), (.ref b66)])) rfl rfl (hb hby d6_182)
  have K96 : ∀ t, Steps p.tables e below (T96.setTop (mkF m 183 #[.val (.ref a0), .val (.ref a1), .val (.ref b3), .val (.ref b66), .val (.int (1 : Int32)), .val (.ref u1), .val (.ref k1), .val (.double r0), .second, .val (.int (1 : Int32))] [])) t → Steps p.tables e below G0 t := fun t kt => K94 t (st96 _ kt)
  have Z96 : n0 ≤ h96.size := Nat.le_trans Z66 (Keep.of_wr W96).1
  have VL96 : Arv Z h96 b66 k66 .double (2 : Int32) [(.double 0), (.double (FP.ddiv r0 dd))] (.double 0) := Arv.set Ar95 qq95 S95 M95 H95 GG95 rfl W96 1 rfl (Nat.le_of_ble_eq_true rfl)
  have N96 := Fr.snoc X96 N46 gn66
  have K97 : ∀ t, Steps p.tables e below (T96.setTop (mkF m 186 #[.val (.ref a0), .val (.ref a1), .val (.ref b3), .val (.ref b66), .val (.int ((1 : Int32) + (-1 : Int32))), .val (.ref u1), .val (.ref k1), .val (.double r0), .second, .val (.int (1 : Int32))] [])) t → Steps p.tables e below G0 t := by
    intro t kt
    refine K96 t ?_
    refine XS.iinc X96.here hx rfl (hb hby d6_183) rfl (l' := #[.val (.ref a0), .val (.ref a1), .val (.ref b3), .val (.ref b66), .val (.int ((1 : Int32) + (-1 : Int32))), .val (.ref u1), .val (.ref k1), .val (.double r0), .second, .val (.int (1 : Int32))]) rfl ?_
    show Steps p.tables e below (T96.setTop (mkF m 186 #[.val (.ref a0), .val (.ref a1), .val (.ref b3), .val (.ref b66), .val (.int ((1 : Int32) + (-1 : Int32))), .val (.ref u1), .val (.ref k1), .val (.double r0), .second, .val (.int (1 : Int32))] [])) _
    exact kt
  rw [show ((1 : Int32) + (-1 : Int32)) = (0 : Int32) from by decide] at K97
  have K98 : ∀ t, Steps p.tables e below (T96.setTop (mkF m 112 #[.val (.ref a0), .val (.ref a1), .val (.ref b3), .val (.ref b66), .val (.int (0 : Int32)), .val (.ref u1), .val (.ref k1), .val (.double r0), .second, .val (.int (1 : Int32))] [(.ref a0)])) t → Steps p.tables e below G0 t := by
    intro t kt
    refine K97 t ?_
    refine XS.goto X96.here hx rfl (pc0 := 186) (pc' := 106) rfl (hb hby d6_186) (by decide) (by decide) ?_
    show Steps p.tables e below (T96.setTop (mkF m 106 #[.val (.ref a0), .val (.ref a1), .val (.ref b3), .val (.ref b66), .val (.int (0 : Int32)), .val (.ref u1), .val (.ref k1), .val (.double r0), .second, .val (.int (1 : Int32))] [])) _
    refine XS.iload X96.here hx rfl (hb hby d6_106) rfl ?_
    show Steps p.tables e below (T96.setTop (mkF m 108 #[.val (.ref a0), .val (.ref a1), .val (.ref b3), .val (.ref b66), .val (.int (0 : Int32)), .val (.ref u1), .val (.ref k1), .val (.double r0), .second, .val (.int (1 : Int32))] [(.int (0 : Int32))])) _
    refine XS.ifNo X96.here hx rfl (hb hby d6_108) rfl ((if0 _ _).trans (flt (by decide)).1) ?_
    show Steps p.tables e below (T96.setTop (mkF m 111 #[.val (.ref a0), .val (.ref a1), .val (.ref b3), .val (.ref b66), .val (.int (0 : Int32)), .val (.ref u1), .val (.ref k1), .val (.double r0), .second, .val (.int (1 : Int32))] [])) _
    refine XS.aloadN X96.here hx rfl (hb hby d6_111) rfl rfl ?_
    show Steps p.tables e below (T96.setTop (mkF m 112 #[.val (.ref a0), .val (.ref a1), .val (.ref b3), .val (.ref b66), .val (.int (0 : Int32)), .val (.ref u1), .val (.ref k1), .val (.double r0), .second, .val (.int (1 : Int32))] [(.ref a0)])) _
    exact kt
  have f99 := (f72.other W96 (Or.inl ne_a0_b66))
  obtain ⟨T100, X100, e100, st100⟩ := getF X96 hx hZ hown (host := "") (Or.inl (hw _ (List.mem_of_getElem? (i := 31) rfl))) Via.refl e96 f99 (g := (mkF m 112 #[.val (.ref a0), .val (.ref a1), .val (.ref b3), .val (.ref b66), .val (.int (0 : Int32)), .val (.ref u1), .val (.ref k1), .val (.double r0), .second, .val (.int (1 : Int32))] [(.ref a0)])) rfl rfl (hb hby d6_112)
  have K100 : ∀ t, Steps p.tables e below (T100.setTop (mkF m 115 #[.val (.ref a0), .val (.ref a1), .val (.ref b3), .val (.ref b66), .val (.int (0 : Int32)), .val (.ref u1), .val (.ref k1), .val (.double r0), .second, .val (.int (1 : Int32))] [(.ref pu)])) t → Steps p.tables e below G0 t := fun t kt => K98 t (st100 _ kt)
  have K101 : ∀ t, Steps p.tables e below (T100.setTop (mkF m 117 #[.val (.ref a0), .val (.ref a1), .val (.ref b3), .val (.ref b66), .val (.int (0 : Int32)), .val (.ref u1), .val (.ref k1), .val (.double r0), .second, .val (.int (1 : Int32))] [(.int (0 : Int32)), (.ref pu)])) t → Steps p.tables e below G0 t := by
    intro t kt
    refine K100 t ?_
    refine XS.iload X100.here hx rfl (hb hby d6_115) rfl ?_
    show Steps p.tables e below (T100.setTop (mkF m 117 #[.val (.ref a0), .val (.ref a1), .val (.ref b3), .val (.ref b66), .val (.int (0 : Int32)), .val (.ref u1), .val (.ref k1), .val (.double r0), .second, .val (.int (1 : Int32))] [(.int (0 : Int32)), (.ref pu)])) _
    exact kt
  have f102 := (f75.other W96 ne_pu_b66)
  obtain ⟨cl103, Ar103, qq103, S103, M103, H103, GG103⟩ := id f102
  have hin103 : ¬ ((0 : Int32) < 0 ∨ cl103.slots.size ≤ ((0 : Int32)).toNatClampNeg) := inb_of S103 ⟨by decide, by decide⟩
  have hat103 : cl103.slots[((0 : Int32)).toNatClampNeg]? = some (.ref u0) := Has.at H103 hin103 rfl
  have K104 : ∀ t, Steps p.tables e below (T100.setTop (mkF m 121 #[.val (.ref a0), .val (.ref a1), .val (.ref b3), .val (.ref b66), .val (.int (0 : Int32)), .val (.ref u0), .val (.ref k1), .val (.double r0), .second, .val (.int (1 : Int32))] [(.ref a0)])) t → Steps p.tables e below G0 t := by
    intro t kt
    refine K101 t ?_
    refine X100.aaload hx (j := (0 : Int32)) (v := (.ref u0)) (by rw [e100]; exact (Ar103).1) (State.isArrayOf_alike hZ.alike (Ar103).2.1) rfl (Ar103).2.2 hin103 hat103 (g := (mkF m 117 #[.val (.ref a0), .val (.ref a1), .val (.ref b3), .val (.ref b66), .val (.int (0 : Int32)), .val (.ref u1), .val (.ref k1), .val (.double r0), .second, .val (.int (1 : Int32))] [(.int (0 : Int32)), (.ref pu)])) rfl rfl (hb hby d6_117) _ ?_
    show Steps p.tables e below (T100.setTop (mkF m 118 #[.val (.ref a0), .val (.ref a1), .val (.ref b3), .val (.ref b66), .val (.int (0 : Int32)), .val (.ref u1), .val (.ref k1), .val (.double r0), .second, .val (.int (1 : Int32))] [(.ref u0)])) _
    refine XS.astore X100.here hx rfl (hb hby d6_118) rfl rfl (l' := #[.val (.ref a0), .val (.ref a1), .val (.ref b3), .val (.ref b66), .val (.int (0 : Int32)), .val (.ref u0), .val (.ref k1), .val (.double r0), .second, .val (.int (1 : Int32))]) rfl ?_
    show Steps p.tables e below (T100.setTop (mkF m 120 #[.val (.ref a0), .val (.ref a1), .val (.ref b3), .val (.ref b66), .val (.int (0 : Int32)), .val (.ref u0), .val (.ref k1), .val (.double r0), .second, .val (.int (1 : Int32))] [])) _
    refine XS.aloadN X100.here hx rfl (hb hby d6_120) rfl rfl ?_
    show Steps p.tables e below (T100.setTop (mkF m 121 #[.val (.ref a0), .val (.ref a1), .val (.ref b3), .val (.ref b66), .val (.int (0 : Int32)), .val (.ref u0), .val (.ref k1), .val (.double r0), .second, .val (.int (1 : Int32))] [(.ref a0)])) _
    exact kt
  have f105 := (f78.other W96 (Or.inl ne_a0_b66))
  obtain ⟨T106, X106, e106, st106⟩ := getF X100 hx hZ hown (host := "") (Or.inl (hw _ (List.mem_of_getElem? (i := 33) rfl))) Via.refl e100 f105 (g := (mkF m 121 #[.val (.ref a0), .val (.ref a1), .val (.ref b3), .val (.ref b66), .val (.int (0 : Int32)), .val (.ref u0), .val (.ref k1), .val (.double r0), .second, .val (.int (1 : Int32))] [(.ref a0)])) rfl rfl (hb hby d6_121)
  have K106 : ∀ t, Steps p.tables e below (T106.setTop (mkF m 124 #[.val (.ref a0), .val (.ref a1), .val (.ref b3), .val (.ref b66), .val (.int (0 : Int32)), .val (.ref u0), .val (.ref k1), .val (.double r0), .second, .val (.int (1 : Int32))] [(.ref pc)])) t → Steps p.tables e below G0 t := fun t kt => K104 t (st106 _ kt)
  have K107 : ∀ t, Steps p.tables e below (T106.setTop (mkF m 126 #[.val (.ref a0), .val (.ref a1), .val (.ref b3), .val (.ref b66), .val (.int (0 : Int32)), .val (.ref u0), .val (.ref k1), .val (.double r0), .second, .val (.int (1 : Int32))] [(.int (0 : Int32)), (.ref pc)])) t → Steps p.tables e below G0 t := by
    intro t kt
    refine K106 t ?_
    refine XS.iload X106.here hx rfl (hb hby d6_124) rfl ?_
    show Steps p.tables e below (T106.setTop (mkF m 126 #[.val (.ref a0), .val (.ref a1), .val (.ref b3), .val (.ref b66), .val (.int (0 : Int32)), .val (.ref u0), .val (.ref k1), .val (.double r0), .second, .val (.int (1 : Int32))] [(.int (0 : Int32)), (.ref pc)])) _
    exact kt
  have f108 := (f81.other W96 ne_pc_b66)
  obtain ⟨cl109, Ar109, qq109, S109, M109, H109, GG109⟩ := id f108
  have hin109 : ¬ ((0 : Int32) < 0 ∨ cl109.slots.size ≤ ((0 : Int32)).toNatClampNeg) := inb_of S109 ⟨by decide, by decide⟩
  have hat109 : cl109.slots[((0 : Int32)).toNatClampNeg]? = some (.ref k0) := Has.at H109 hin109 rfl
  have K110 : ∀ t, Steps p.tables e below (T106.setTop (mkF m 132 #[.val (.ref a0), .val (.ref a1), .val (.ref b3), .val (.ref b66), .val (.int (0 : Int32)), .val (.ref u0), .val (.ref k0), .val (.double r0), .second, .val (.int (1 : Int32))] [(.int (0 : Int32)), (.ref b3)])) t → Steps p.tables e below G0 t := by
    intro t kt
    refine K107 t ?_
    refine X106.aaload hx (j := (0 : Int32)) (v := (.ref k0)) (by rw [e106]; exact (Ar109).1) (State.isArrayOf_alike hZ.alike (Ar109).2.1) rfl (Ar109).2.2 hin109 hat109 (g := (mkF m 126 #[.val (.ref a0), .val (.ref a1), .val (.ref b3), .val (.ref b66), .val (.int (0 : Int32)), .val (.ref u0), .val (.ref k1), .val (.double r0), .second, .val (.int (1 : Int32))] [(.int (0 : Int32)), (.ref pc)])) rfl rfl (hb hby d6_126) _ ?_
    show Steps p.tables e below (T106.setTop (mkF m 127 #[.val (.ref a0), .val (.ref a1), .val (.ref b3), .val (.ref b66), .val (.int (0 : Int32)), .val (.ref u0), .val (.ref k1), .val (.double r0), .second, .val (.int (1 : Int32))] [(.ref k0)])) _
    refine XS.astore X106.here hx rfl (hb hby d6_127) rfl rfl (l' := #[.val (.ref a0), .val (.ref a1), .val (.ref b3), .val (.ref b66), .val (.int (0 : Int32)), .val (.ref u0), .val (.ref k0), .val (.double r0), .second, .val (.int (1 : Int32))]) rfl ?_
    show Steps p.tables e below (T106.setTop (mkF m 129 #[.val (.ref a0), .val (.ref a1), .val (.ref b3), .val (.ref b66), .val (.int (0 : Int32)), .val (.ref u0), .val (.ref k0), .val (.double r0), .second, .val (.int (1 : Int32))] [])) _
    refine XS.aloadN X106.here hx rfl (hb hby d6_129) rfl rfl ?_
    show Steps p.tables e below (T106.setTop (mkF m 130 #[.val (.ref a0), .val (.ref a1), .val (.ref b3), .val (.ref b66), .val (.int (0 : Int32)), .val (.ref u0), .val (.ref k0), .val (.double r0), .second, .val (.int (1 : Int32))] [(.ref b3)])) _
    refine XS.iload X106.here hx rfl (hb hby d6_130) rfl ?_
    show Steps p.tables e below (T106.setTop (mkF m 132 #[.val (.ref a0), .val (.ref a1), .val (.ref b3), .val (.ref b66), .val (.int (0 : Int32)), .val (.ref u0), .val (.ref k0), .val (.double r0), .second, .val (.int (1 : Int32))] [(.int (0 : Int32)), (.ref b3)])) _
    exact kt
  have f111 := (f84.other W96 ne_b3_b66)
  obtain ⟨cl112, Ar112, qq112, S112, M112, H112, GG112⟩ := id f111
  have hin112 : ¬ ((0 : Int32) < 0 ∨ cl112.slots.size ≤ ((0 : Int32)).toNatClampNeg) := inb_of S112 ⟨by decide, by decide⟩
  have hat112 : cl112.slots[((0 : Int32)).toNatClampNeg]? = some (.double r1) := Has.at H112 hin112 rfl
  have K113 : ∀ t, Steps p.tables e below (T106.setTop (mkF m 142 #[.val (.ref a0), .val (.ref a1), .val (.ref b3), .val (.ref b66), .val (.int (0 : Int32)), .val (.ref u0), .val (.ref k0), .val (.double r1), .second, .val (.int (1 : Int32))] [(.ref u0), (.int (1 : Int32))])) t → Steps p.tables e below G0 t := by
    intro t kt
    refine K110 t ?_
    refine X106.daload hx (j := (0 : Int32)) (v := (.double r1)) (by rw [e106]; exact (Ar112).1) (State.isArrayOf_alike hZ.alike (Ar112).2.1) (Ar112).2.2 hin112 hat112 (g := (mkF m 132 #[.val (.ref a0), .val (.ref a1), .val (.ref b3), .val (.ref b66), .val (.int (0 : Int32)), .val (.ref u0), .val (.ref k0), .val (.double r0), .second, .val (.int (1 : Int32))] [(.int (0 : Int32)), (.ref b3)])) rfl rfl (hb hby d6_132) _ ?_
    show Steps p.tables e below (T106.setTop (mkF m 133 #[.val (.ref a0), .val (.ref a1), .val (.ref b3), .val (.ref b66), .val (.int (0 : Int32)), .val (.ref u0), .val (.ref k0), .val (.double r0), .second, .val (.int (1 : Int32))] [(.double r1)])) _
    refine XS.dstore X106.here hx rfl (hb hby d6_133) rfl (l' := #[.val (.ref a0), .val (.ref a1), .val (.ref b3), .val (.ref b66), .val (.int (0 : Int32)), .val (.ref u0), .val (.ref k0), .val (.double r1), .second, .val (.int (1 : Int32))]) rfl ?_
    show Steps p.tables e below (T106.setTop (mkF m 135 #[.val (.ref a0), .val (.ref a1), .val (.ref b3), .val (.ref b66), .val (.int (0 : Int32)), .val (.ref u0), .val (.ref k0), .val (.double r1), .second, .val (.int (1 : Int32))] [])) _
    refine XS.iconst X106.here hx rfl (hb hby d6_135) ?_
    show Steps p.tables e below (T106.setTop (mkF m 136 #[.val (.ref a0), .val (.ref a1), .val (.ref b3), .val (.ref b66), .val (.int (0 : Int32)), .val (.ref u0), .val (.ref k0), .val (.double r1), .second, .val (.int (1 : Int32))] [(.int (1 : Int32))])) _
    refine XS.istore X106.here hx rfl (hb hby d6_136) rfl (l' := #[.val (.ref a0), .val (.ref a1), .val (.ref b3), .val (.ref b66), .val (.int (0 : Int32)), .val (.ref u0), .val (.ref k0), .val (.double r1), .second, .val (.int (1 : Int32))]) rfl ?_
    show Steps p.tables e below (T106.setTop (mkF m 138 #[.val (.ref a0), .val (.ref a1), .val (.ref b3), .val (.ref b66), .val (.int (0 : Int32)), .val (.ref u0), .val (.ref k0), .val (.double r1), .second, .val (.int (1 : Int32))] [])) _
    refine XS.iload X106.here hx rfl (hb hby d6_138) rfl ?_
    show Steps p.tables e below (T106.setTop (mkF m 140 #[.val (.ref a0), .val (.ref a1), .val (.ref b3), .val (.ref b66), .val (.int (0 : Int32)), .val (.ref u0), .val (.ref k0), .val (.double r1), .second, .val (.int (1 : Int32))] [(.int (1 : Int32))])) _
    refine XS.aload X106.here hx rfl (hb hby d6_140) rfl rfl ?_
    show Steps p.tables e below (T106.setTop (mkF m 142 #[.val (.ref a0), .val (.ref a1), .val (.ref b3), .val (.ref b66), .val (.int (0 : Int32)), .val (.ref u0), .val (.ref k0), .val (.double r1), .second, .val (.int (1 : Int32))] [(.ref u0), (.int (1 : Int32))])) _
    exact kt
  have f114 := ((f62.ext E66).other W96 ne_u0_b66)
  obtain ⟨cl115, Ar115, qq115, S115, M115, H115, GG115⟩ := id f114
  have K116 : ∀ t, Steps p.tables e below (T106.setTop (mkF m 152 #[.val (.ref a0), .val (.ref a1), .val (.ref b3), .val (.ref b66), .val (.int (0 : Int32)), .val (.ref u0), .val (.ref k0), .val (.double r1), .second, .val (.int (1 : Int32))] [(.int (1 : Int32)), (.ref k0), (.double r1)])) t → Steps p.tables e below G0 t := by
    intro t kt
    refine K113 t ?_
    refine X106.arraylength hx (by rw [e106]; exact (Ar115).1) (State.isArrayOf_alike hZ.alike (Ar115).2.1) (g := (mkF m 142 #[.val (.ref a0), .val (.ref a1), .val (.ref b3), .val (.ref b66), .val (.int (0 : Int32)), .val (.ref u0), .val (.ref k0), .val (.double r1), .second, .val (.int (1 : Int32))] [(.ref u0), (.int (1 : Int32))])) rfl rfl (hb hby d6_142) _ ?_
    rw [len_of S115 M115]
    show Steps p.tables e below (T106.setTop (mkF m 143 #[.val (.ref a0), .val (.ref a1), .val (.ref b3), .val (.ref b66), .val (.int (0 : Int32)), .val (.ref u0), .val (.ref k0), .val (.double r1), .second, .val (.int (1 : Int32))] [(.int (2 : Int32)), (.int (1 : Int32))])) _
    refine XS.icmpNo X106.here hx rfl (hb hby d6_143) rfl (tlt (by decide)).2.1 ?_
    show Steps p.tables e below (T106.setTop (mkF m 146 #[.val (.ref a0), .val (.ref a1), .val (.ref b3), .val (.ref b66), .val (.int (0 : Int32)), .val (.ref u0), .val (.ref k0), .val (.double r1), .second, .val (.int (1 : Int32))] [])) _
    refine XS.dload X106.here hx rfl (hb hby d6_146) rfl ?_
    show Steps p.tables e below (T106.setTop (mkF m 148 #[.val (.ref a0), .val (.ref a1), .val (.ref b3), .val (.ref b66), .val (.int (0 : Int32)), .val (.ref u0), .val (.ref k0), .val (.double r1), .second, .val (.int (1 : Int32))] [(.double r1)])) _
    refine XS.aload X106.here hx rfl (hb hby d6_148) rfl rfl ?_
    show Steps p.tables e below (T106.setTop (mkF m 150 #[.val (.ref a0), .val (.ref a1), .val (.ref b3), .val (.ref b66), .val (.int (0 : Int32)), .val (.ref u0), .val (.ref k0), .val (.double r1), .second, .val (.int (1 : Int32))] [(.ref k0), (.double r1)])) _
    refine XS.iload X106.here hx rfl (hb hby d6_150) rfl ?_
    show Steps p.tables e below (T106.setTop (mkF m 152 #[.val (.ref a0), .val (.ref a1), .val (.ref b3), .val (.ref b66), .val (.int (0 : Int32)), .val (.ref u0), .val (.ref k0), .val (.double r1), .second, .val (.int (1 : Int32))] [(.int (1 : Int32)), (.ref k0), (.double r1)])) _
    exact kt
  have f117 := ((f64.ext E66).other W96 ne_k0_b66)
  obtain ⟨cl118, Ar118, qq118, S118, M118, H118, GG118⟩ := id f117
  have hin118 : ¬ ((1 : Int32) < 0 ∨ cl118.slots.size ≤ ((1 : Int32)).toNatClampNeg) := inb_of S118 ⟨by decide, by decide⟩
  have hat118 : cl118.slots[((1 : Int32)).toNatClampNeg]? = some (.double c01) := Has.at H118 hin118 rfl
  have K119 : ∀ t, Steps p.tables e below (T106.setTop (mkF m 158 #[.val (.ref a0), .val (.ref a1), .val (.ref b3), .val (.ref b66), .val (.int (0 : Int32)), .val (.ref u0), .val (.ref k0), .val (.double r1), .second, .val (.int (1 : Int32))] [(.int (1 : Int32)), (.ref u0), (.ref b66), (.double c01), (.double r1)])) t → Steps p.tables e below G0 t := by
    intro t kt
    refine K116 t ?_
    refine X106.daload hx (j := (1 : Int32)) (v := (.double c01)) (by rw [e106]; exact (Ar118).1) (State.isArrayOf_alike hZ.alike (Ar118).2.1) (Ar118).2.2 hin118 hat118 (g := (mkF m 152 #[.val (.ref a0), .val (.ref a1), .val (.ref b3), .val (.ref b66), .val (.int (0 : Int32)), .val (.ref u0), .val (.ref k0), .val (.double r1), .second, .val (.int (1 : Int32))] [(.int (1 : Int32)), (.ref k0), (.double r1)])) rfl rfl (hb hby d6_152) _ ?_
    show Steps p.tables e below (T106.setTop (mkF m 153 #[.val (.ref a0), .val (.ref a1), .val (.ref b3), .val (.ref b66), .val (.int (0 : Int32)), .val (.ref u0), .val (.ref k0), .val (.double r1), .second, .val (.int (1 : Int32))] [(.double c01), (.double r1)])) _
    refine XS.aloadN X106.here hx rfl (hb hby d6_153) rfl rfl ?_
    show Steps p.tables e below (T106.setTop (mkF m 154 #[.val (.ref a0), .val (.ref a1), .val (.ref b3), .val (.ref b66), .val (.int (0 : Int32)), .val (.ref u0), .val (.ref k0), .val (.double r1), .second, .val (.int (1 : Int32))] [(.ref b66), (.double c01), (.double r1)])) _
    refine XS.aload X106.here hx rfl (hb hby d6_154) rfl rfl ?_
    show Steps p.tables e below (T106.setTop (mkF m 156 #[.val (.ref a0), .val (.ref a1), .val (.ref b3), .val (.ref b66), .val (.int (0 : Int32)), .val (.ref u0), .val (.ref k0), .val (.double r1), .second, .val (.int (1 : Int32))] [(.ref u0), (.ref b66), (.double c01), (.double r1)])) _
    refine XS.iload X106.here hx rfl (hb hby d6_156) rfl ?_
    show Steps p.tables e below (T106.setTop (mkF m 158 #[.val (.ref a0), .val (.ref a1), .val (.ref b3), .val (.ref b66), .val (.int (0 : Int32)), .val (.ref u0), .val (.ref k0), .val (.double r1), .second, .val (.int (1 : Int32))] [(.int (1 : Int32)), (.ref u0), (.ref b66), (.double c01), (.double r1)])) _
    exact kt
  obtain ⟨cl120, Ar120, qq120, S120, M120, H120, GG120⟩ := id f114
  have hin120 : ¬ ((1 : Int32) < 0 ∨ cl120.slots.size ≤ ((1 : Int32)).toNatClampNeg) := inb_of S120 ⟨by decide, by decide⟩
  have hat120 : cl120.slots[((1 : Int32)).toNatClampNeg]? = some (.int (1 : Int32)) := Has.at H120 hin120 rfl
  have K121 : ∀ t, Steps p.tables e below (T106.setTop (mkF m 159 #[.val (.ref a0), .val (.ref a1), .val (.ref b3), .val (.ref b66), .val (.int (0 : Int32)), .val (.ref u0), .val (.ref k0), .val (.double r1), .second, .val (.int (1 : Int32))] [(.int (1 : Int32)), (.ref b66), (.double c01), (.double r1)])) t → Steps p.tables e below G0 t := by
    intro t kt
    refine K119 t ?_
    refine X106.iaload hx (j := (1 : Int32)) (v := (.int (1 : Int32))) (by rw [e106]; exact (Ar120).1) (State.isArrayOf_alike hZ.alike (Ar120).2.1) (Ar120).2.2 hin120 hat120 (g := (mkF m 158 #[.val (.ref a0), .val (.ref a1), .val (.ref b3), .val (.ref b66), .val (.int (0 : Int32)), .val (.ref u0), .val (.ref k0), .val (.double r1), .second, .val (.int (1 : Int32))] [(.int (1 : Int32)), (.ref u0), (.ref b66), (.double c01), (.double r1)])) rfl rfl (hb hby d6_158) _ ?_
    show Steps p.tables e below (T106.setTop (mkF m 159 #[.val (.ref a0), .val (.ref a1), .val (.ref b3), .val (.ref b66), .val (.int (0 : Int32)), .val (.ref u0), .val (.ref k0), .val (.double r1), .second, .val (.int (1 : Int32))] [(.int (1 : Int32)), (.ref b66), (.double c01), (.double r1)])) _
    exact kt
  obtain ⟨cl122, Ar122, qq122, S122, M122, H122, GG122⟩ := id VL96
  have hin122 : ¬ ((1 : Int32) < 0 ∨ cl122.slots.size ≤ ((1 : Int32)).toNatClampNeg) := inb_of S122 ⟨by decide, by decide⟩
  have hat122 : cl122.slots[((1 : Int32)).toNatClampNeg]? = some (.double (FP.ddiv r0 dd)) := Has.at H122 hin122 rfl
  have K123 : ∀ t, Steps p.tables e below (T106.setTop (mkF m 167 #[.val (.ref a0), .val (.ref a1), .val (.ref b3), .val (.ref b66), .val (.int (0 : Int32)), .val (.ref u0), .val (.ref k0), .val (.double (FP.dsub r1 (FP.dmul c01 (FP.ddiv r0 dd)))), .second, .val (.int ((1 : Int32) + (1 : Int32)))] [])) t → Steps p.tables e below G0 t := by
    intro t kt
    refine K121 t ?_
    refine X106.daload hx (j := (1 : Int32)) (v := (.double (FP.ddiv r0 dd))) (by rw [e106]; exact (Ar122).1) (State.isArrayOf_alike hZ.alike (Ar122).2.1) (Ar122).2.2 hin122 hat122 (g := (mkF m 159 #[.val (.ref a0), .val (.ref a1), .val (.ref b3), .val (.ref b66), .val (.int (0 : Int32)), .val (.ref u0), .val (.ref k0), .val (.double r1), .second, .val (.int (1 : Int32))] [(.int (1 : Int32)), (.ref b66), (.double c01), (.double r1)])) rfl rfl (hb hby d6_159) _ ?_
    show Steps p.tables e below (T106.setTop (mkF m 160 #[.val (.ref a0), .val (.ref a1), .val (.ref b3), .val (.ref b66), .val (.int (0 : Int32)), .val (.ref u0), .val (.ref k0), .val (.double r1), .second, .val (.int (1 : Int32))] [(.double (FP.ddiv r0 dd)), (.double c01), (.double r1)])) _
    refine XS.dmulS X106.here hx rfl (hb hby d6_160) rfl hn2 rfl ?_
    show Steps p.tables e below (T106.setTop (mkF m 161 #[.val (.ref a0), .val (.ref a1), .val (.ref b3), .val (.ref b66), .val (.int (0 : Int32)), .val (.ref u0), .val (.ref k0), .val (.double r1), .second, .val (.int (1 : Int32))] [(.double (FP.dmul c01 (FP.ddiv r0 dd))), (.double r1)])) _
    refine XS.dsubS X106.here hx rfl (hb hby d6_161) rfl hn3 rfl ?_
    show Steps p.tables e below (T106.setTop (mkF m 162 #[.val (.ref a0), .val (.ref a1), .val (.ref b3), .val (.ref b66), .val (.int (0 : Int32)), .val (.ref u0), .val (.ref k0), .val (.double r1), .second, .val (.int (1 : Int32))] [(.double (FP.dsub r1 (FP.dmul c01 (FP.ddiv r0 dd))))])) _
    refine XS.dstore X106.here hx rfl (hb hby d6_162) rfl (l' := #[.val (.ref a0), .val (.ref a1), .val (.ref b3), .val (.ref b66), .val (.int (0 : Int32)), .val (.ref u0), .val (.ref k0), .val (.double (FP.dsub r1 (FP.dmul c01 (FP.ddiv r0 dd)))), .second, .val (.int (1 : Int32))]) rfl ?_
    show Steps p.tables e below (T106.setTop (mkF m 164 #[.val (.ref a0), .val (.ref a1), .val (.ref b3), .val (.ref b66), .val (.int (0 : Int32)), .val (.ref u0), .val (.ref k0), .val (.double (FP.dsub r1 (FP.dmul c01 (FP.ddiv r0 dd)))), .second, .val (.int (1 : Int32))] [])) _
    refine XS.iinc X106.here hx rfl (hb hby d6_164) rfl (l' := #[.val (.ref a0), .val (.ref a1), .val (.ref b3), .val (.ref b66), .val (.int (0 : Int32)), .val (.ref u0), .val (.ref k0), .val (.double (FP.dsub r1 (FP.dmul c01 (FP.ddiv r0 dd)))), .second, .val (.int ((1 : Int32) + (1 : Int32)))]) rfl ?_
    show Steps p.tables e below (T106.setTop (mkF m 167 #[.val (.ref a0), .val (.ref a1), .val (.ref b3), .val (.ref b66), .val (.int (0 : Int32)), .val (.ref u0), .val (.ref k0), .val (.double (FP.dsub r1 (FP.dmul c01 (FP.ddiv r0 dd)))), .second, .val (.int ((1 : Int32) + (1 : Int32)))] [])) _
    exact kt
  rw [show ((1 : Int32) + (1 : Int32)) = (2 : Int32) from by decide] at K123
  have K124 : ∀ t, Steps p.tables e below (T106.setTop (mkF m 142 #[.val (.ref a0), .val (.ref a1), .val (.ref b3), .val (.ref b66), .val (.int (0 : Int32)), .val (.ref u0), .val (.ref k0), .val (.double (FP.dsub r1 (FP.dmul c01 (FP.ddiv r0 dd)))), .second, .val (.int (2 : Int32))] [(.ref u0), (.int (2 : Int32))])) t → Steps p.tables e below G0 t := by
    intro t kt
    refine K123 t ?_
    refine XS.goto X106.here hx rfl (pc0 := 167) (pc' := 138) rfl (hb hby d6_167) (by decide) (by decide) ?_
    show Steps p.tables e below (T106.setTop (mkF m 138 #[.val (.ref a0), .val (.ref a1), .val (.ref b3), .val (.ref b66), .val (.int (0 : Int32)), .val (.ref u0), .val (.ref k0), .val (.double (FP.dsub r1 (FP.dmul c01 (FP.ddiv r0 dd)))), .second, .val (.int (2 : Int32))] [])) _
    refine XS.iload X106.here hx rfl (hb hby d6_138) rfl ?_
    show Steps p.tables e below (T106.setTop (mkF m 140 #[.val (.ref a0), .val (.ref a1), .val (.ref b3), .val (.ref b66), .val (.int (0 : Int32)), .val (.ref u0), .val (.ref k0), .val (.double (FP.dsub r1 (FP.dmul c01 (FP.ddiv r0 dd)))), .second, .val (.int (2 : Int32))] [(.int (2 : Int32))])) _
    refine XS.aload X106.here hx rfl (hb hby d6_140) rfl rfl ?_
    show Steps p.tables e below (T106.setTop (mkF m 142 #[.val (.ref a0), .val (.ref a1), .val (.ref b3), .val (.ref b66), .val (.int (0 : Int32)), .val (.ref u0), .val (.ref k0), .val (.double (FP.dsub r1 (FP.dmul c01 (FP.ddiv r0 dd)))), .second, .val (.int (2 : Int32))] [(.ref u0), (.int (2 : Int32))])) _
    exact kt
  obtain ⟨cl125, Ar125, qq125, S125, M125, H125, GG125⟩ := id f114
  have K126 : ∀ t, Steps p.tables e below (T106.setTop (mkF m 174 #[.val (.ref a0), .val (.ref a1), .val (.ref b3), .val (.ref b66), .val (.int (0 : Int32)), .val (.ref u0), .val (.ref k0), .val (.double (FP.dsub r1 (FP.dmul c01 (FP.ddiv r0 dd)))), .second, .val (.int (2 : Int32))] [(.int (0 : Int32)), (.ref u0), (.ref b66)])) t → Steps p.tables e below G0 t := by
    intro t kt
    refine K124 t ?_
    refine X106.arraylength hx (by rw [e106]; exact (Ar125).1) (State.isArrayOf_alike hZ.alike (Ar125).2.1) (g := (mkF m 142 #[.val (.ref a0), .val (.ref a1), .val (.ref b3), .val (.ref b66), .val (.int (0 : Int32)), .val (.ref u0), .val (.ref k0), .val (.double (FP.dsub r1 (FP.dmul c01 (FP.ddiv r0 dd)))), .second, .val (.int (2 : Int32))] [(.ref u0), (.int (2 : Int32))])) rfl rfl (hb hby d6_142) _ ?_
    rw [len_of S125 M125]
    show Steps p.tables e below (T106.setTop (mkF m 143 #[.val (.ref a0), .val (.ref a1), .val (.ref b3), .val (.ref b66), .val (.int (0 : Int32)), .val (.ref u0), .val (.ref k0), .val (.double (FP.dsub r1 (FP.dmul c01 (FP.ddiv r0 dd)))), .second, .val (.int (2 : Int32))] [(.int (2 : Int32)), (.int (2 : Int32))])) _
    refine XS.icmpYes X106.here hx rfl (pc0 := 143) (pc' := 170) rfl (hb hby d6_143) rfl (flt (by decide)).2.1 (by decide) (by decide) ?_
    show Steps p.tables e below (T106.setTop (mkF m 170 #[.val (.ref a0), .val (.ref a1), .val (.ref b3), .val (.ref b66), .val (.int (0 : Int32)), .val (.ref u0), .val (.ref k0), .val (.double (FP.dsub r1 (FP.dmul c01 (FP.ddiv r0 dd)))), .second, .val (.int (2 : Int32))] [])) _
    refine XS.aloadN X106.here hx rfl (hb hby d6_170) rfl rfl ?_
    show Steps p.tables e below (T106.setTop (mkF m 171 #[.val (.ref a0), .val (.ref a1), .val (.ref b3), .val (.ref b66), .val (.int (0 : Int32)), .val (.ref u0), .val (.ref k0), .val (.double (FP.dsub r1 (FP.dmul c01 (FP.ddiv r0 dd)))), .second, .val (.int (2 : Int32))] [(.ref b66)])) _
    refine XS.aload X106.here hx rfl (hb hby d6_171) rfl rfl ?_
    show Steps p.tables e below (T106.setTop (mkF m 173 #[.val (.ref a0), .val (.ref a1), .val (.ref b3), .val (.ref b66), .val (.int (0 : Int32)), .val (.ref u0), .val (.ref k0), .val (.double (FP.dsub r1 (FP.dmul c01 (FP.ddiv r0 dd)))), .second, .val (.int (2 : Int32))] [(.ref u0), (.ref b66)])) _
    refine XS.iconst X106.here hx rfl (hb hby d6_173) ?_
    show Steps p.tables e below (T106.setTop (mkF m 174 #[.val (.ref a0), .val (.ref a1), .val (.ref b3), .val (.ref b66), .val (.int (0 : Int32)), .val (.ref u0), .val (.ref k0), .val (.double (FP.dsub r1 (FP.dmul c01 (FP.ddiv r0 dd)))), .second, .val (.int (2 : Int32))] [(.int (0 : Int32)), (.ref u0), (.ref b66)])) _
    exact kt
  obtain ⟨cl127, Ar127, qq127, S127, M127, H127, GG127⟩ := id f114
  have hin127 : ¬ ((0 : Int32) < 0 ∨ cl127.slots.size ≤ ((0 : Int32)).toNatClampNeg) := inb_of S127 ⟨by decide, by decide⟩
  have hat127 : cl127.slots[((0 : Int32)).toNatClampNeg]? = some (.int (0 : Int32)) := Has.at H127 hin127 rfl
  have K128 : ∀ t, Steps p.tables e below (T106.setTop (mkF m 180 #[.val (.ref a0), .val (.ref a1), .val (.ref b3), .val (.ref b66), .val (.int (0 : Int32)), .val (.ref u0), .val (.ref k0), .val (.double (FP.dsub r1 (FP.dmul c01 (FP.ddiv r0 dd)))), .second, .val (.int (2 : Int32))] [(.int (0 : Int32)), (.ref k0), (.double (FP.dsub r1 (FP.dmul c01 (FP.ddiv r0 dd)))), (.int (0 : Int32)), (.ref b66)])) t → Steps p.tables e below G0 t := by
    intro t kt
    refine K126 t ?_
    refine X106.iaload hx (j := (0 : Int32)) (v := (.int (0 : Int32))) (by rw [e106]; exact (Ar127).1) (State.isArrayOf_alike hZ.alike (Ar127).2.1) (Ar127).2.2 hin127 hat127 (g := (mkF m 174 #[.val (.ref a0), .val (.ref a1), .val (.ref b3), .val (.ref b66), .val (.int (0 : Int32)), .val (.ref u0), .val (.ref k0), .val (.double (FP.dsub r1 (FP.dmul c01 (FP.ddiv r0 dd)))), .second, .val (.int (2 : Int32))] [(.int (0 : Int32)), (.ref u0), (.ref b66)])) rfl rfl (hb hby d6_174) _ ?_
    show Steps p.tables e below (T106.setTop (mkF m 175 #[.val (.ref a0), .val (.ref a1), .val (.ref b3), .val (.ref b66), .val (.int (0 : Int32)), .val (.ref u0), .val (.ref k0), .val (.double (FP.dsub r1 (FP.dmul c01 (FP.ddiv r0 dd)))), .second, .val (.int (2 : Int32))] [(.int (0 : Int32)), (.ref b66)])) _
    refine XS.dload X106.here hx rfl (hb hby d6_175) rfl ?_
    show Steps p.tables e below (T106.setTop (mkF m 177 #[.val (.ref a0), .val (.ref a1), .val (.ref b3), .val (.ref b66), .val (.int (0 : Int32)), .val (.ref u0), .val (.ref k0), .val (.double (FP.dsub r1 (FP.dmul c01 (FP.ddiv r0 dd)))), .second, .val (.int (2 : Int32))] [(.double (FP.dsub r1 (FP.dmul c01 (FP.ddiv r0 dd)))), (.int (0 : Int32)), (.ref b66)])) _
    refine XS.aload X106.here hx rfl (hb hby d6_177) rfl rfl ?_
    show Steps p.tables e below (T106.setTop (mkF m 179 #[.val (.ref a0), .val (.ref a1), .val (.ref b3), .val (.ref b66), .val (.int (0 : Int32)), .val (.ref u0), .val (.ref k0), .val (.double (FP.dsub r1 (FP.dmul c01 (FP.ddiv r0 dd)))), .second, .val (.int (2 : Int32))] [(.ref k0), (.double (FP.dsub r1 (FP.dmul c01 (FP.ddiv r0 dd)))), (.int (0 : Int32)), (.ref b66)])) _
    refine XS.iconst X106.here hx rfl (hb hby d6_179) ?_
    show Steps p.tables e below (T106.setTop (mkF m 180 #[.val (.ref a0), .val (.ref a1), .val (.ref b3), .val (.ref b66), .val (.int (0 : Int32)), .val (.ref u0), .val (.ref k0), .val (.double (FP.dsub r1 (FP.dmul c01 (FP.ddiv r0 dd)))), .second, .val (.int (2 : Int32))] [(.int (0 : Int32)), (.ref k0), (.double (FP.dsub r1 (FP.dmul c01 (FP.ddiv r0 dd)))), (.int (0 : Int32)), (.ref b66)])) _
    exact kt
  obtain ⟨cl129, Ar129, qq129, S129, M129, H129, GG129⟩ := id f117
  have hin129 : ¬ ((0 : Int32) < 0 ∨ cl129.slots.size ≤ ((0 : Int32)).toNatClampNeg) := inb_of S129 ⟨by decide, by decide⟩
  have hat129 : cl129.slots[((0 : Int32)).toNatClampNeg]? = some (.double c00) := Has.at H129 hin129 rfl
  have K130 : ∀ t, Steps p.tables e below (T106.setTop (mkF m 182 #[.val (.ref a0), .val (.ref a1), .val (.ref b3), .val (.ref b66), .val (.int (0 : Int32)), .val (.ref u0), .val (.ref k0), .val (.double (FP.dsub r1 (FP.dmul c01 (FP.ddiv r0 dd)))), .second, .val (.int (2 : Int32))] [(.double (FP.ddiv (FP.dsub r1 (FP.dmul c01 (FP.ddiv r0 dd))) c00)), (.int (0 : Int32)), (.ref b66)])) t → Steps p.tables e below G0 t := by
    intro t kt
    refine K128 t ?_
    refine X106.daload hx (j := (0 : Int32)) (v := (.double c00)) (by rw [e106]; exact (Ar129).1) (State.isArrayOf_alike hZ.alike (Ar129).2.1) (Ar129).2.2 hin129 hat129 (g := (mkF m 180 #[.val (.ref a0), .val (.ref a1), .val (.ref b3), .val (.ref b66), .val (.int (0 : Int32)), .val (.ref u0), .val (.ref k0), .val (.double (FP.dsub r1 (FP.dmul c01 (FP.ddiv r0 dd)))), .second, .val (.int (2 : Int32))] [(.int (0 : Int32)), (.ref k0), (.double (FP.dsub r1 (FP.dmul c01 (FP.ddiv r0 dd)))), (.int (0 : Int32)), (.ref b66)])) rfl rfl (hb hby d6_180) _ ?_
    show Steps p.tables e below (T106.setTop (mkF m 181 #[.val (.ref a0), .val (.ref a1), .val (.ref b3), .val (.ref b66), .val (.int (0 : Int32)), .val (.ref u0), .val (.ref k0), .val (.double (FP.dsub r1 (FP.dmul c01 (FP.ddiv r0 dd)))), .second, .val (.int (2 : Int32))] [(.double c00), (.double (FP.dsub r1 (FP.dmul c01 (FP.ddiv r0 dd)))), (.int (0 : Int32)), (.ref b66)])) _
    refine XS.ddivS X106.here hx rfl (hb hby d6_181) rfl hn4 rfl ?_
    show Steps p.tables e below (T106.setTop (mkF m 182 #[.val (.ref a0), .val (.ref a1), .val (.ref b3), .val (.ref b66), .val (.int (0 : Int32)), .val (.ref u0), .val (.ref k0), .val (.double (FP.dsub r1 (FP.dmul c01 (FP.ddiv r0 dd)))), .second, .val (.int (2 : Int32))] [(.double (FP.ddiv (FP.dsub r1 (FP.dmul c01 (FP.ddiv r0 dd))) c00)), (.int (0 : Int32)), (.ref b66)])) _
    exact kt
  obtain ⟨cl131, Ar131, qq131, S131, M131, H131, GG131⟩ := id VL96
  have hin131 : ¬ ((0 : Int32) < 0 ∨ cl131.slots.size ≤ ((0 : Int32)).toNatClampNeg) := inb_of S131 ⟨by decide, by decide⟩
  obtain ⟨T132, h132, X132, e132, W132, st132⟩ := stD X106 hx hZ e106 Ar131 (j := (0 : Int32)) hin131 (g := (mkF m 182 #[.val (.ref a0), .val (.ref a1), .val (.ref b3), .val (.ref b66), .val (.int (0 : Int32)), .val (.ref u0), .val (.ref k0), .val (.double (FP.dsub r1 (FP.dmul c01 (FP.ddiv r0 dd)))), .second, .val (.int (2 : Int32))] [(.double (FP.ddiv (FP.dsub r1 (FP.dmul c01 (FP.ddiv r0 dd))) c00)), (.int (0 : Int32)), (.ref b66)])) rfl rfl (hb hby d6_182)
  have K132 : ∀ t, Steps p.tables e below (T132.setTop (mkF m 183 #[.val (.ref a0), .val (.ref a1), .val (.ref b3), .val (.ref b66), .val (.int (0 : Int32)), .val (.ref u0), .val (.ref k0), .val (.double (FP.dsub r1 (FP.dmul c01 (FP.ddiv r0 dd)))), .second, .val (.int (2 : Int32))] [])) t → Steps p.tables e below G0 t := fun t kt => K130 t (st132 _ kt)
  have Z132 : n0 ≤ h132.size := Nat.le_trans Z96 (Keep.of_wr W132).1
  have VL132 : Arv Z h132 b66 k66 .double (2 : Int32) [(.double (FP.ddiv (FP.dsub r1 (FP.dmul c01 (FP.ddiv r0 dd))) c00)), (.double (FP.ddiv r0 dd))] (.double 0) := Arv.set Ar131 qq131 S131 M131 H131 GG131 rfl W132 0 rfl (Nat.le_of_ble_eq_true rfl)
  have N132 := Fr.snoc X132 N96 gn66
  have K133 : ∀ t, Steps p.tables e below (T132.setTop (mkF m 186 #[.val (.ref a0), .val (.ref a1), .val (.ref b3), .val (.ref b66), .val (.int ((0 : Int32) + (-1 : Int32))), .val (.ref u0), .val (.ref k0), .val (.double (FP.dsub r1 (FP.dmul c01 (FP.ddiv r0 dd)))), .second, .val (.int (2 : Int32))] [])) t → Steps p.tables e below G0 t := by
    intro t kt
    refine K132 t ?_
    refine XS.iinc X132.here hx rfl (hb hby d6_183) rfl (l' := #[.val (.ref a0), .val (.ref a1), .val (.ref b3), .val (.ref b66), .val (.int ((0 : Int32) + (-1 : Int32))), .val (.ref u0), .val (.ref k0), .val (.double (FP.dsub r1 (FP.dmul c01 (FP.ddiv r0 dd)))), .second, .val (.int (2 : Int32))]) rfl ?_
    show Steps p.tables e below (T132.setTop (mkF m 186 #[.val (.ref a0), .val (.ref a1), .val (.ref b3), .val (.ref b66), .val (.int ((0 : Int32) + (-1 : Int32))), .val (.ref u0), .val (.ref k0), .val (.double (FP.dsub r1 (FP.dmul c01 (FP.ddiv r0 dd)))), .second, .val (.int (2 : Int32))] [])) _
    exact kt
  rw [show ((0 : Int32) + (-1 : Int32)) = (-1 : Int32) from by decide] at K133
  have K134 : ∀ t, Steps p.tables e below (T132.setTop (mkF m 190 #[.val (.ref a0), .val (.ref a1), .val (.ref b3), .val (.ref b66), .val (.int (-1 : Int32)), .val (.ref u0), .val (.ref k0), .val (.double (FP.dsub r1 (FP.dmul c01 (FP.ddiv r0 dd)))), .second, .val (.int (2 : Int32))] [(.ref b66)])) t → Steps p.tables e below G0 t := by
    intro t kt
    refine K133 t ?_
    refine XS.goto X132.here hx rfl (pc0 := 186) (pc' := 106) rfl (hb hby d6_186) (by decide) (by decide) ?_
    show Steps p.tables e below (T132.setTop (mkF m 106 #[.val (.ref a0), .val (.ref a1), .val (.ref b3), .val (.ref b66), .val (.int (-1 : Int32)), .val (.ref u0), .val (.ref k0), .val (.double (FP.dsub r1 (FP.dmul c01 (FP.ddiv r0 dd)))), .second, .val (.int (2 : Int32))] [])) _
    refine XS.iload X132.here hx rfl (hb hby d6_106) rfl ?_
    show Steps p.tables e below (T132.setTop (mkF m 108 #[.val (.ref a0), .val (.ref a1), .val (.ref b3), .val (.ref b66), .val (.int (-1 : Int32)), .val (.ref u0), .val (.ref k0), .val (.double (FP.dsub r1 (FP.dmul c01 (FP.ddiv r0 dd)))), .second, .val (.int (2 : Int32))] [(.int (-1 : Int32))])) _
    refine XS.ifYes X132.here hx rfl (pc0 := 108) (pc' := 189) rfl (hb hby d6_108) rfl ((if0 _ _).trans (tlt (by decide)).1) (by decide) (by decide) ?_
    show Steps p.tables e below (T132.setTop (mkF m 189 #[.val (.ref a0), .val (.ref a1), .val (.ref b3), .val (.ref b66), .val (.int (-1 : Int32)), .val (.ref u0), .val (.ref k0), .val (.double (FP.dsub r1 (FP.dmul c01 (FP.ddiv r0 dd)))), .second, .val (.int (2 : Int32))] [])) _
    refine XS.aloadN X132.here hx rfl (hb hby d6_189) rfl rfl ?_
    show Steps p.tables e below (T132.setTop (mkF m 190 #[.val (.ref a0), .val (.ref a1), .val (.ref b3), .val (.ref b66), .val (.int (-1 : Int32)), .val (.ref u0), .val (.ref k0), .val (.double (FP.dsub r1 (FP.dmul c01 (FP.ddiv r0 dd)))), .second, .val (.int (2 : Int32))] [(.ref b66)])) _
    exact kt
  have KQ135_0 := Keep.refl h0 []
  have sz135_3 := Nat.le_trans KQ135_0.1 (Nat.le_of_eq g3.symm)
  have KQ135_1 := KQ135_0.ext E3
  have KQ135_2 := KQ135_1.wr W24 (Or.inr sz135_3)
  have KQ135_3 := KQ135_2.wr W46 (Or.inr sz135_3)
  have sz135_66 := Nat.le_trans KQ135_3.1 (Nat.le_of_eq g66.symm)
  have KQ135_4 := KQ135_3.ext E66
  have KQ135_5 := KQ135_4.wr W96 (Or.inr sz135_66)
  have KQ135_6 := KQ135_5.wr W132 (Or.inr sz135_66)
  obtain ⟨fs, hr, hrun, hended, hW, hsame⟩ := X132.leave (v := some (.ref b66)) (fun h => by rw [Bd.returns] at h; cases h)
  refine ⟨_, _, ?_, hrun, hended, _, _, rfl, ?_, ⟨_, rfl⟩, hW, hsame.mono (by decide) (by decide)⟩
  · rw [← hG0]
    refine K134 _ ?_
    exact retOut X132 hx (t := (.array .double)) Bd.returns rfl (Or.inr (Or.inr (Or.inr (Or.inr ⟨rfl, rfl, rfl⟩)))) (hb hby d6_190) hr
  · show Q6_10 Z a0 a1 rb ml ln pe pu pc u0 u1 k0 k1 kr km kl ke ku kc kq kh1 kh2 kh3 kh4 rd lrb lml r0 r1 c00 c01 dd h0 n0 _ T132.heap _
    rw [e132]
    exact ⟨b66, _, rfl, N132, KQ135_6, VL132⟩
theorem ef_rm6_11 (m : MethodId) (a0 : Addr) (a1 : Addr) : entryFrame m #[(.ref a0), (.ref a1)] 10 = (mkF m 0 #[.val (.ref a0), .val (.ref a1), .unset, .unset, .unset, .unset, .unset, .unset, .unset, .unset] []) := by first | (simp [entryFrame, mkF, argsToLocals, Value.category]; done) | rfl
def Q6_11 (Z : State) (a0 : Addr) (a1 : Addr) (rb : Addr) (ml : Addr) (ln : Addr) (pe : Addr) (pu : Addr) (pc : Addr) (u0 : Addr) (u1 : Addr) (k0 : Addr) (k1 : Addr) (kr : ClassId) (km : ClassId) (kl : ClassId) (ke : ClassId) (ku : ClassId) (kc : ClassId) (kq : ClassId) (kh1 : ClassId) (kh2 : ClassId) (kh3 : ClassId) (kh4 : ClassId) (rd : Int64) (lrb : List Value) (lml : List Value) (r0 : UInt64) (r1 : UInt64) (c00 : UInt64) (c01 : UInt64) (dd : UInt64) (h0 : Heap) (n0 : Nat) (v : Option Value) (h : Heap) (L : List Loc) : Prop := ∃ (r : Addr) (kx : ClassId), v = some (.ref r) ∧ Fr n0 L ∧ Keep h0 h [] ∧ Arv Z h r kx .double (2 : Int32) [(.double (FP.ddiv r0 dd)), (.double (FP.ddiv (FP.dsub r1 (FP.dmul c01 (FP.ddiv r0 dd))) c00))] (.double 0)
set_option maxRecDepth 65536 in
set_option maxHeartbeats 40000000 in
theorem rm6_11 (l : Launch) (Z : State) (aa : Array Value) (hw : ∀ d ∈ tables_1, d.before aa Z = true) (ws : List Jvm.Cond) (a0 : Addr) (a1 : Addr) (rb : Addr) (ml : Addr) (ln : Addr) (pe : Addr) (pu : Addr) (pc : Addr) (u0 : Addr) (u1 : Addr) (k0 : Addr) (k1 : Addr) (kr : ClassId) (km : ClassId) (kl : ClassId) (ke : ClassId) (ku : ClassId) (kc : ClassId) (kq : ClassId) (kh1 : ClassId) (kh2 : ClassId) (kh3 : ClassId) (kh4 : ClassId) (rd : Int64) (lrb : List Value) (lml : List Value) (r0 : UInt64) (r1 : UInt64) (c00 : UInt64) (c01 : UInt64) (dd : UInt64) (h0 : Heap) (n0 : Nat) (Z0 : n0 ≤ h0.size) (FA : own_Fac Z h0 a0 rb ml ln pe pu pc kr km kl ke ku kc (2 : Int32) (2 : Int32) rd lrb lml [(.int (0 : Int32)), (.int (0 : Int32))] [(.int (1 : Int32)), (.int (0 : Int32))] [(.ref u0), (.ref u1)] [(.ref k0), (.ref k1)]) (V_a1 : Arv Z h0 a1 kq .double (2 : Int32) [(.double r0), (.double r1)] (.double 0)) (V_u0 : Arv Z h0 u0 kh1 .int (2 : Int32) [(.int (1 : Int32)), (.int (0 : Int32))] (.int (0 : Int32))) (V_u1 : Arv Z h0 u1 kh2 .int (1 : Int32) [(.int (0 : Int32))] (.int (0 : Int32))) (V_k0 : Arv Z h0 k0 kh3 .double (2 : Int32) [(.double c00), (.double c01)] (.double 0)) (V_k1 : Arv Z h0 k1 kh4 .double (1 : Int32) [(.double dd)] (.double 0)) (hn1 : NoNaN64 (FP.ddiv r0 dd)) (hn2 : NoNaN64 (FP.dmul c01 (FP.ddiv r0 dd))) (hn3 : NoNaN64 (FP.dsub r1 (FP.dmul c01 (FP.ddiv r0 dd)))) (hn4 : NoNaN64 (FP.ddiv (FP.dsub r1 (FP.dmul c01 (FP.ddiv r0 dd))) c00)) :
    MetFree l (⟨"com/example/sondage/sondage/inference/Factorization", "solve", "([D)[D"⟩ : MethodName) (head1 (Jvm.Cond.code (⟨"com/example/sondage/sondage/inference/Factorization", "solve", "([D)[D"⟩ : MethodName) prog_18_method_7_code 10 (some (.array .double)) :: ws) ({ frames := 0, cells := 2, slots := 4, locals := 0 } : Room)) (fun a U => a = #[(.ref a0), (.ref a1)] ∧ Z.Warmed39 U.vm ∧ U.heap = h0) (fun _ _ _ _ _ => True) (fun _ U o U' => ∃ v L, o = .returned v ∧ Q6_11 Z a0 a1 rb ml ln pe pu pc u0 u1 k0 k1 kr km kl ke ku kc kq kh1 kh2 kh3 kh4 rd lrb lml r0 r1 c00 c01 dd h0 n0 v U'.heap L ∧ FrameEnd U o U' L ({ frames := 0, cells := 2, slots := 4, locals := 0 } : Room).cells ({ frames := 0, cells := 2, slots := 4, locals := 0 } : Room).slots) := by
  refine MetFree.of_bodySF (plainFor_of_name pn_com_example_sondage_sondage_inference_Factorization) hisR ?_
  intro p e s m args below meth c s₁ Bd hml0 hP hK
  obtain ⟨rfl, hZ, hh⟩ := hP
  have hx := Bd.exec
  have hby := Bd.bytes
  have hml : c.maxLocals = 10 := hml0
  have hown : s.vm.findClass "com/example/sondage/sondage/inference/Factorization" = some m.cls := findClass_of_methodNamed Bd.named
  have hnm := (name_of_methodNamed Bd.named Bd.method).1
  have X0 : Stand p l e ({ frames := 0, cells := 2, slots := 4, locals := 0 } : Room) s m #[(.ref a0), (.ref a1)] below meth c s₁ [] 0 0 := Stand.of_body Bd
  have e0 : s₁.heap = h0 := by rw [← hh, Bd.state]; rfl
  have N0 := Fr.nil n0
  obtain ⟨G0, hG0⟩ : ∃ G, G = s₁.setTop (entryFrame m #[(.ref a0), (.ref a1)] 10) := ⟨_, rfl⟩
  have K0 : ∀ t, Steps p.tables e below (s₁.setTop (mkF m 0 #[.val (.ref a0), .val (.ref a1), .unset, .unset, .unset, .unset, .unset, .unset, .unset, .unset] [])) t → Steps p.tables e below G0 t := fun t k => by rw [hG0]; exact castTop (ef_rm6_11 m a0 a1) k
  obtain ⟨fc_0, fc_1, fc_2, fc_3, fc_4, fc_5, fc_6, fc_7, fc_8, fc_9, fc_10, fc_11, fc_12, fc_13, fc_14, fc_15⟩ := id FA
  have K1 : ∀ t, Steps p.tables e below (s₁.setTop (mkF m 1 #[.val (.ref a0), .val (.ref a1), .unset, .unset, .unset, .unset, .unset, .unset, .unset, .unset] [(.ref a0)])) t → Steps p.tables e below G0 t := by
    intro t kt
    refine K0 t ?_
    refine XS.aloadN X0.here hx rfl (hb hby d6_0) rfl rfl ?_
    show Steps p.tables e below (s₁.setTop (mkF m 1 #[.val (.ref a0), .val (.ref a1), .unset, .unset, .unset, .unset, .unset, .unset, .unset, .unset] [(.ref a0)])) _
    exact kt
  obtain ⟨T2, X2, e2, st2⟩ := getF X0 hx hZ hown (host := "") (Or.inl (hw _ (List.mem_of_getElem? (i := 41) rfl))) Via.refl e0 fc_2 (g := (mkF m 1 #[.val (.ref a0), .val (.ref a1), .unset, .unset, .unset, .unset, .unset, .unset, .unset, .unset] [(.ref a0)])) rfl rfl (hb hby d6_1)
  have K2 : ∀ t, Steps p.tables e below (T2.setTop (mkF m 4 #[.val (.ref a0), .val (.ref a1), .unset, .unset, .unset, .unset, .unset, .unset, .unset, .unset] [(.int (2 : Int32))])) t → Steps p.tables e below G0 t := fun t kt => K1 t (st2 _ kt)
  obtain ⟨T3, h3, k3, X3, e3, E3, A3, EA3, st3⟩ := newPE X2 hx hZ (hw _ (List.mem_of_getElem? (i := 35) rfl)) e2 (g := (mkF m 4 #[.val (.ref a0), .val (.ref a1), .unset, .unset, .unset, .unset, .unset, .unset, .unset, .unset] [(.int (2 : Int32))])) rfl (hb hby d6_4) rfl (by decide) (cap := 2) (by decide) (by decide) (by decide) (by decide) (ad := "[D") (by decide)
  obtain ⟨b3, g3⟩ : ∃ z, z = h0.size := ⟨_, rfl⟩
  rw [← g3] at A3 EA3 st3
  have V3 := Arv.new A3 (by decide)
  have gn3 : n0 ≤ b3 := Nat.le_trans Z0 (Nat.le_of_eq g3.symm)
  have Z3 : n0 ≤ h3.size := Nat.le_trans Z0 E3.1
  have K3 : ∀ t, Steps p.tables e below (T3.setTop (mkF m 6 #[.val (.ref a0), .val (.ref a1), .unset, .unset, .unset, .unset, .unset, .unset, .unset, .unset] [(.ref b3)])) t → Steps p.tables e below G0 t := fun t kt => K2 t (st3 _ kt)
  have ne_a0_b3 : a0 ≠ b3 := Nat.ne_of_lt (Nat.lt_of_lt_of_le (fc_0).lt (Nat.le_of_eq g3.symm))
  have ne_rb_b3 : rb ≠ b3 := Nat.ne_of_lt (Nat.lt_of_lt_of_le (fc_10).lt (Nat.le_of_eq g3.symm))
  have ne_ml_b3 : ml ≠ b3 := Nat.ne_of_lt (Nat.lt_of_lt_of_le (fc_11).lt (Nat.le_of_eq g3.symm))
  have ne_ln_b3 : ln ≠ b3 := Nat.ne_of_lt (Nat.lt_of_lt_of_le (fc_12).lt (Nat.le_of_eq g3.symm))
  have ne_pe_b3 : pe ≠ b3 := Nat.ne_of_lt (Nat.lt_of_lt_of_le (fc_13).lt (Nat.le_of_eq g3.symm))
  have ne_pu_b3 : pu ≠ b3 := Nat.ne_of_lt (Nat.lt_of_lt_of_le (fc_14).lt (Nat.le_of_eq g3.symm))
  have ne_pc_b3 : pc ≠ b3 := Nat.ne_of_lt (Nat.lt_of_lt_of_le (fc_15).lt (Nat.le_of_eq g3.symm))
  have ne_a1_b3 : a1 ≠ b3 := Nat.ne_of_lt (Nat.lt_of_lt_of_le (V_a1).lt (Nat.le_of_eq g3.symm))
  have ne_u0_b3 : u0 ≠ b3 := Nat.ne_of_lt (Nat.lt_of_lt_of_le (V_u0).lt (Nat.le_of_eq g3.symm))
  have ne_u1_b3 : u1 ≠ b3 := Nat.ne_of_lt (Nat.lt_of_lt_of_le (V_u1).lt (Nat.le_of_eq g3.symm))
  have ne_k0_b3 : k0 ≠ b3 := Nat.ne_of_lt (Nat.lt_of_lt_of_le (V_k0).lt (Nat.le_of_eq g3.symm))
  have ne_k1_b3 : k1 ≠ b3 := Nat.ne_of_lt (Nat.lt_of_lt_of_le (V_k1).lt (Nat.le_of_eq g3.symm))
  have VL3 : Arv Z h3 b3 k3 .double (2 : Int32) [(.double 0), (.double 0)] (.double 0) := V3.pad (pad_rep [] (.double 0) 2)
  have K4 : ∀ t, Steps p.tables e below (T3.setTop (mkF m 11 #[.val (.ref a0), .val (.ref a1), .val (.ref b3), .val (.int (0 : Int32)), .unset, .unset, .unset, .unset, .unset, .unset] [(.ref a0), (.int (0 : Int32))])) t → Steps p.tables e below G0 t := by
    intro t kt
    refine K3 t ?_
    refine XS.astoreN X3.here hx rfl (hb hby d6_6) rfl rfl (l' := #[.val (.ref a0), .val (.ref a1), .val (.ref b3), .unset, .unset, .unset, .unset, .unset, .unset, .unset]) rfl ?_
    show Steps p.tables e below (T3.setTop (mkF m 7 #[.val (.ref a0), .val (.ref a1), .val (.ref b3), .unset, .unset, .unset, .unset, .unset, .unset, .unset] [])) _
    refine XS.iconst X3.here hx rfl (hb hby d6_7) ?_
    show Steps p.tables e below (T3.setTop (mkF m 8 #[.val (.ref a0), .val (.ref a1), .val (.ref b3), .unset, .unset, .unset, .unset, .unset, .unset, .unset] [(.int (0 : Int32))])) _
    refine XS.istoreN X3.here hx rfl (hb hby d6_8) rfl (l' := #[.val (.ref a0), .val (.ref a1), .val (.ref b3), .val (.int (0 : Int32)), .unset, .unset, .unset, .unset, .unset, .unset]) rfl ?_
    show Steps p.tables e below (T3.setTop (mkF m 9 #[.val (.ref a0), .val (.ref a1), .val (.ref b3), .val (.int (0 : Int32)), .unset, .unset, .unset, .unset, .unset, .unset] [])) _
    refine XS.iloadN X3.here hx rfl (hb hby d6_9) rfl ?_
    show Steps p.tables e below (T3.setTop (mkF m 10 #[.val (.ref a0), .val (.ref a1), .val (.ref b3), .val (.int (0 : Int32)), .unset, .unset, .unset, .unset, .unset, .unset] [(.int (0 : Int32))])) _
    refine XS.aloadN X3.here hx rfl (hb hby d6_10) rfl rfl ?_
    show Steps p.tables e below (T3.setTop (mkF m 11 #[.val (.ref a0), .val (.ref a1), .val (.ref b3), .val (.int (0 : Int32)), .unset, .unset, .unset, .unset, .unset, .unset] [(.ref a0), (.int (0 : Int32))])) _
    exact kt
  have f5 := (fc_2.ext E3)
  obtain ⟨T6, X6, e6, st6⟩ := getF X3 hx hZ hown (host := "") (Or.inl (hw _ (List.mem_of_getElem? (i := 41) rfl))) Via.refl e3 f5 (g := (mkF m 11 #[.val (.ref a0), .val (.ref a1), .val (.ref b3), .val (.int (0 : Int32)), .unset, .unset, .unset, .unset, .unset, .unset] [(.ref a0), (.int (0 : Int32))])) rfl rfl (hb hby d6_11)
  have K6 : ∀ t, Steps p.tables e below (T6.setTop (mkF m 14 #[.val (.ref a0), .val (.ref a1), .val (.ref b3), .val (.int (0 : Int32)), .unset, .unset, .unset, .unset, .unset, .unset] [(.int (2 : Int32)), (.int (0 : Int32))])) t → Steps p.tables e below G0 t := fun t kt => K4 t (st6 _ kt)
  have K7 : ∀ t, Steps p.tables e below (T6.setTop (mkF m 18 #[.val (.ref a0), .val (.ref a1), .val (.ref b3), .val (.int (0 : Int32)), .unset, .unset, .unset, .unset, .unset, .unset] [(.ref a0)])) t → Steps p.tables e below G0 t := by
    intro t kt
    refine K6 t ?_
    refine XS.icmpNo X6.here hx rfl (hb hby d6_14) rfl (tlt (by decide)).2.1 ?_
    show Steps p.tables e below (T6.setTop (mkF m 17 #[.val (.ref a0), .val (.ref a1), .val (.ref b3), .val (.int (0 : Int32)), .unset, .unset, .unset, .unset, .unset, .unset] [])) _
    refine XS.aloadN X6.here hx rfl (hb hby d6_17) rfl rfl ?_
    show Steps p.tables e below (T6.setTop (mkF m 18 #[.val (.ref a0), .val (.ref a1), .val (.ref b3), .val (.int (0 : Int32)), .unset, .unset, .unset, .unset, .unset, .unset] [(.ref a0)])) _
    exact kt
  have f8 := (fc_7.ext E3)
  obtain ⟨T9, X9, e9, st9⟩ := getF X6 hx hZ hown (host := "") (Or.inl (hw _ (List.mem_of_getElem? (i := 29) rfl))) Via.refl e6 f8 (g := (mkF m 18 #[.val (.ref a0), .val (.ref a1), .val (.ref b3), .val (.int (0 : Int32)), .unset, .unset, .unset, .unset, .unset, .unset] [(.ref a0)])) rfl rfl (hb hby d6_18)
  have K9 : ∀ t, Steps p.tables e below (T9.setTop (mkF m 21 #[.val (.ref a0), .val (.ref a1), .val (.ref b3), .val (.int (0 : Int32)), .unset, .unset, .unset, .unset, .unset, .unset] [(.ref pe)])) t → Steps p.tables e below G0 t := fun t kt => K7 t (st9 _ kt)
  have K10 : ∀ t, Steps p.tables e below (T9.setTop (mkF m 22 #[.val (.ref a0), .val (.ref a1), .val (.ref b3), .val (.int (0 : Int32)), .unset, .unset, .unset, .unset, .unset, .unset] [(.int (0 : Int32)), (.ref pe)])) t → Steps p.tables e below G0 t := by
    intro t kt
    refine K9 t ?_
    refine XS.iloadN X9.here hx rfl (hb hby d6_21) rfl ?_
    show Steps p.tables e below (T9.setTop (mkF m 22 #[.val (.ref a0), .val (.ref a1), .val (.ref b3), .val (.int (0 : Int32)), .unset, .unset, .unset, .unset, .unset, .unset] [(.int (0 : Int32)), (.ref pe)])) _
    exact kt
  have f11 := (fc_13.ext E3)
  obtain ⟨cl12, Ar12, qq12, S12, M12, H12, GG12⟩ := id f11
  have hin12 : ¬ ((0 : Int32) < 0 ∨ cl12.slots.size ≤ ((0 : Int32)).toNatClampNeg) := inb_of S12 ⟨by decide, by decide⟩
  have hat12 : cl12.slots[((0 : Int32)).toNatClampNeg]? = some (.int (1 : Int32)) := Has.at H12 hin12 rfl
  have K13 : ∀ t, Steps p.tables e below (T9.setTop (mkF m 28 #[.val (.ref a0), .val (.ref a1), .val (.ref b3), .val (.int (0 : Int32)), .val (.int (1 : Int32)), .unset, .unset, .unset, .unset, .unset] [(.int (1 : Int32)), (.ref a1)])) t → Steps p.tables e below G0 t := by
    intro t kt
    refine K10 t ?_
    refine X9.iaload hx (j := (0 : Int32)) (v := (.int (1 : Int32))) (by rw [e9]; exact (Ar12).1) (State.isArrayOf_alike hZ.alike (Ar12).2.1) (Ar12).2.2 hin12 hat12 (g := (mkF m 22 #[.val (.ref a0), .val (.ref a1), .val (.ref b3), .val (.int (0 : Int32)), .unset, .unset, .unset, .unset, .unset, .unset] [(.int (0 : Int32)), (.ref pe)])) rfl rfl (hb hby d6_22) _ ?_
    show Steps p.tables e below (T9.setTop (mkF m 23 #[.val (.ref a0), .val (.ref a1), .val (.ref b3), .val (.int (0 : Int32)), .unset, .unset, .unset, .unset, .unset, .unset] [(.int (1 : Int32))])) _
    refine XS.istore X9.here hx rfl (hb hby d6_23) rfl (l' := #[.val (.ref a0), .val (.ref a1), .val (.ref b3), .val (.int (0 : Int32)), .val (.int (1 : Int32)), .unset, .unset, .unset, .unset, .unset]) rfl ?_
    show Steps p.tables e below (T9.setTop (mkF m 25 #[.val (.ref a0), .val (.ref a1), .val (.ref b3), .val (.int (0 : Int32)), .val (.int (1 : Int32)), .unset, .unset, .unset, .unset, .unset] [])) _
    refine XS.aloadN X9.here hx rfl (hb hby d6_25) rfl rfl ?_
    show Steps p.tables e below (T9.setTop (mkF m 26 #[.val (.ref a0), .val (.ref a1), .val (.ref b3), .val (.int (0 : Int32)), .val (.int (1 : Int32)), .unset, .unset, .unset, .unset, .unset] [(.ref a1)])) _
    refine XS.iload X9.here hx rfl (hb hby d6_26) rfl ?_
    show Steps p.tables e below (T9.setTop (mkF m 28 #[.val (.ref a0), .val (.ref a1), .val (.ref b3), .val (.int (0 : Int32)), .val (.int (1 : Int32)), .unset, .unset, .unset, .unset, .unset] [(.int (1 : Int32)), (.ref a1)])) _
    exact kt
  have f14 := (V_a1.ext E3)
  obtain ⟨cl15, Ar15, qq15, S15, M15, H15, GG15⟩ := id f14
  have hin15 : ¬ ((1 : Int32) < 0 ∨ cl15.slots.size ≤ ((1 : Int32)).toNatClampNeg) := inb_of S15 ⟨by decide, by decide⟩
  have hat15 : cl15.slots[((1 : Int32)).toNatClampNeg]? = some (.double r1) := Has.at H15 hin15 rfl
  have K16 : ∀ t, Steps p.tables e below (T9.setTop (mkF m 37 #[.val (.ref a0), .val (.ref a1), .val (.ref b3), .val (.int (0 : Int32)), .val (.int (1 : Int32)), .val (.double r1), .second, .val (.int (0 : Int32)), .unset, .unset] [(.ref a0), (.int (0 : Int32))])) t → Steps p.tables e below G0 t := by
    intro t kt
    refine K13 t ?_
    refine X9.daload hx (j := (1 : Int32)) (v := (.double r1)) (by rw [e9]; exact (Ar15).1) (State.isArrayOf_alike hZ.alike (Ar15).2.1) (Ar15).2.2 hin15 hat15 (g := (mkF m 28 #[.val (.ref a0), .val (.ref a1), .val (.ref b3), .val (.int (0 : Int32)), .val (.int (1 : Int32)), .unset, .unset, .unset, .unset, .unset] [(.int (1 : Int32)), (.ref a1)])) rfl rfl (hb hby d6_28) _ ?_
    show Steps p.tables e below (T9.setTop (mkF m 29 #[.val (.ref a0), .val (.ref a1), .val (.ref b3), .val (.int (0 : Int32)), .val (.int (1 : Int32)), .unset, .unset, .unset, .unset, .unset] [(.double r1)])) _
    refine XS.dstore X9.here hx rfl (hb hby d6_29) rfl (l' := #[.val (.ref a0), .val (.ref a1), .val (.ref b3), .val (.int (0 : Int32)), .val (.int (1 : Int32)), .val (.double r1), .second, .unset, .unset, .unset]) rfl ?_
    show Steps p.tables e below (T9.setTop (mkF m 31 #[.val (.ref a0), .val (.ref a1), .val (.ref b3), .val (.int (0 : Int32)), .val (.int (1 : Int32)), .val (.double r1), .second, .unset, .unset, .unset] [])) _
    refine XS.iconst X9.here hx rfl (hb hby d6_31) ?_
    show Steps p.tables e below (T9.setTop (mkF m 32 #[.val (.ref a0), .val (.ref a1), .val (.ref b3), .val (.int (0 : Int32)), .val (.int (1 : Int32)), .val (.double r1), .second, .unset, .unset, .unset] [(.int (0 : Int32))])) _
    refine XS.istore X9.here hx rfl (hb hby d6_32) rfl (l' := #[.val (.ref a0), .val (.ref a1), .val (.ref b3), .val (.int (0 : Int32)), .val (.int (1 : Int32)), .val (.double r1), .second, .val (.int (0 : Int32)), .unset, .unset]) rfl ?_
    show Steps p.tables e below (T9.setTop (mkF m 34 #[.val (.ref a0), .val (.ref a1), .val (.ref b3), .val (.int (0 : Int32)), .val (.int (1 : Int32)), .val (.double r1), .second, .val (.int (0 : Int32)), .unset, .unset] [])) _
    refine XS.iload X9.here hx rfl (hb hby d6_34) rfl ?_
    show Steps p.tables e below (T9.setTop (mkF m 36 #[.val (.ref a0), .val (.ref a1), .val (.ref b3), .val (.int (0 : Int32)), .val (.int (1 : Int32)), .val (.double r1), .second, .val (.int (0 : Int32)), .unset, .unset] [(.int (0 : Int32))])) _
    refine XS.aloadN X9.here hx rfl (hb hby d6_36) rfl rfl ?_
    show Steps p.tables e below (T9.setTop (mkF m 37 #[.val (.ref a0), .val (.ref a1), .val (.ref b3), .val (.int (0 : Int32)), .val (.int (1 : Int32)), .val (.double r1), .second, .val (.int (0 : Int32)), .unset, .unset] [(.ref a0), (.int (0 : Int32))])) _
    exact kt
  have f17 := (fc_6.ext E3)
  obtain ⟨T18, X18, e18, st18⟩ := getF X9 hx hZ hown (host := "") (Or.inl (hw _ (List.mem_of_getElem? (i := 23) rfl))) Via.refl e9 f17 (g := (mkF m 37 #[.val (.ref a0), .val (.ref a1), .val (.ref b3), .val (.int (0 : Int32)), .val (.int (1 : Int32)), .val (.double r1), .second, .val (.int (0 : Int32)), .unset, .unset] [(.ref a0), (.int (0 : Int32))])) rfl rfl (hb hby d6_37)
  have K18 : ∀ t, Steps p.tables e below (T18.setTop (mkF m 40 #[.val (.ref a0), .val (.ref a1), .val (.ref b3), .val (.int (0 : Int32)), .val (.int (1 : Int32)), .val (.double r1), .second, .val (.int (0 : Int32)), .unset, .unset] [(.ref ln), (.int (0 : Int32))])) t → Steps p.tables e below G0 t := fun t kt => K16 t (st18 _ kt)
  have K19 : ∀ t, Steps p.tables e below (T18.setTop (mkF m 42 #[.val (.ref a0), .val (.ref a1), .val (.ref b3), .val (.int (0 : Int32)), .val (.int (1 : Int32)), .val (.double r1), .second, .val (.int (0 : Int32)), .unset, .unset] [(.int (1 : Int32)), (.ref ln), (.int (0 : Int32))])) t → Steps p.tables e below G0 t := by
    intro t kt
    refine K18 t ?_
    refine XS.iload X18.here hx rfl (hb hby d6_40) rfl ?_
    show Steps p.tables e below (T18.setTop (mkF m 42 #[.val (.ref a0), .val (.ref a1), .val (.ref b3), .val (.int (0 : Int32)), .val (.int (1 : Int32)), .val (.double r1), .second, .val (.int (0 : Int32)), .unset, .unset] [(.int (1 : Int32)), (.ref ln), (.int (0 : Int32))])) _
    exact kt
  have f20 := (fc_12.ext E3)
  obtain ⟨cl21, Ar21, qq21, S21, M21, H21, GG21⟩ := id f20
  have hin21 : ¬ ((1 : Int32) < 0 ∨ cl21.slots.size ≤ ((1 : Int32)).toNatClampNeg) := inb_of S21 ⟨by decide, by decide⟩
  have hat21 : cl21.slots[((1 : Int32)).toNatClampNeg]? = some (.int (0 : Int32)) := Has.at H21 hin21 rfl
  have K22 : ∀ t, Steps p.tables e below (T18.setTop (mkF m 84 #[.val (.ref a0), .val (.ref a1), .val (.ref b3), .val (.int (0 : Int32)), .val (.int (1 : Int32)), .val (.double r1), .second, .val (.int (0 : Int32)), .unset, .unset] [(.double r1), (.int (0 : Int32)), (.ref b3)])) t → Steps p.tables e below G0 t := by
    intro t kt
    refine K19 t ?_
    refine X18.iaload hx (j := (1 : Int32)) (v := (.int (0 : Int32))) (by rw [e18]; exact (Ar21).1) (State.isArrayOf_alike hZ.alike (Ar21).2.1) (Ar21).2.2 hin21 hat21 (g := (mkF m 42 #[.val (.ref a0), .val (.ref a1), .val (.ref b3), .val (.int (0 : Int32)), .val (.int (1 : Int32)), .val (.double r1), .second, .val (.int (0 : Int32)), .unset, .unset] [(.int (1 : Int32)), (.ref ln), (.int (0 : Int32))])) rfl rfl (hb hby d6_42) _ ?_
    show Steps p.tables e below (T18.setTop (mkF m 43 #[.val (.ref a0), .val (.ref a1), .val (.ref b3), .val (.int (0 : Int32)), .val (.int (1 : Int32)), .val (.double r1), .second, .val (.int (0 : Int32)), .unset, .unset] [(.int (0 : Int32)), (.int (0 : Int32))])) _
    refine XS.icmpYes X18.here hx rfl (pc0 := 43) (pc' := 80) rfl (hb hby d6_43) rfl (flt (by decide)).2.1 (by decide) (by decide) ?_
    show Steps p.tables e below (T18.setTop (mkF m 80 #[.val (.ref a0), .val (.ref a1), .val (.ref b3), .val (.int (0 : Int32)), .val (.int (1 : Int32)), .val (.double r1), .second, .val (.int (0 : Int32)), .unset, .unset] [])) _
    refine XS.aloadN X18.here hx rfl (hb hby d6_80) rfl rfl ?_
    show Steps p.tables e below (T18.setTop (mkF m 81 #[.val (.ref a0), .val (.ref a1), .val (.ref b3), .val (.int (0 : Int32)), .val (.int (1 : Int32)), .val (.double r1), .second, .val (.int (0 : Int32)), .unset, .unset] [(.ref b3)])) _
    refine XS.iloadN X18.here hx rfl (hb hby d6_81) rfl ?_
    show Steps p.tables e below (T18.setTop (mkF m 82 #[.val (.ref a0), .val (.ref a1), .val (.ref b3), .val (.int (0 : Int32)), .val (.int (1 : Int32)), .val (.double r1), .second, .val (.int (0 : Int32)), .unset, .unset] [(.int (0 : Int32)), (.ref b3)])) _
    refine XS.dload X18.here hx rfl (hb hby d6_82) rfl ?_
    show Steps p.tables e below (T18.setTop (mkF m 84 #[.val (.ref a0), .val (.ref a1), .val (.ref b3), .val (.int (0 : Int32)), .val (.int (1 : Int32)), .val (.double r1), .second, .val (.int (0 : Int32)), .unset, .unset] [(.double r1), (.int (0 : Int32)), (.ref b3)])) _
    exact kt
  obtain ⟨cl23, Ar23, qq23, S23, M23, H23, GG23⟩ := id VL3
  have hin23 : ¬ ((0 : Int32) < 0 ∨ cl23.slots.size ≤ ((0 : Int32)).toNatClampNeg) := inb_of S23 ⟨by decide, by decide⟩
  obtain ⟨T24, h24, X24, e24, W24, st24⟩ := stD X18 hx hZ e18 Ar23 (j := (0 : Int32)) hin23 (g := (mkF m 84 #[.val (.ref a0), .val (.ref a1), .val (.ref b3), .val (.int (0 : Int32)), .val (.int (1 : Int32)), .val (.double r1), .second, .val (.int (0 : Int32)), .unset, .unset] [(.double r1), (.int (0 : Int32)), (.ref b3)])) rfl rfl (hb hby d6_84)
  have K24 : ∀ t, Steps p.tables e below (T24.setTop (mkF m 85 #[.val (.ref a0), .val (.ref a1), .val (.ref b3), .val (.int (0 : Int32)), .val (.int (1 : Int32)), .val (.double r1), .second, .val (.int (0 : Int32)), .unset, .unset] [])) t → Steps p.tables e below G0 t := fun t kt => K22 t (st24 _ kt)
  have Z24 : n0 ≤ h24.size := Nat.le_trans Z3 (Keep.of_wr W24).1
  have VL24 : Arv Z h24 b3 k3 .double (2 : Int32) [(.double r1), (.double 0)] (.double 0) := Arv.set Ar23 qq23 S23 M23 H23 GG23 rfl W24 0 rfl (Nat.le_of_ble_eq_true rfl)
  have N24 := Fr.snoc X24 N0 gn3
  have K25 : ∀ t, Steps p.tables e below (T24.setTop (mkF m 88 #[.val (.ref a0), .val (.ref a1), .val (.ref b3), .val (.int ((0 : Int32) + (1 : Int32))), .val (.int (1 : Int32)), .val (.double r1), .second, .val (.int (0 : Int32)), .unset, .unset] [])) t → Steps p.tables e below G0 t := by
    intro t kt
    refine K24 t ?_
    refine XS.iinc X24.here hx rfl (hb hby d6_85) rfl (l' := #[.val (.ref a0), .val (.ref a1), .val (.ref b3), .val (.int ((0 : Int32) + (1 : Int32))), .val (.int (1 : Int32)), .val (.double r1), .second, .val (.int (0 : Int32)), .unset, .unset]) rfl ?_
    show Steps p.tables e below (T24.setTop (mkF m 88 #[.val (.ref a0), .val (.ref a1), .val (.ref b3), .val (.int ((0 : Int32) + (1 : Int32))), .val (.int (1 : Int32)), .val (.double r1), .second, .val (.int (0 : Int32)), .unset, .unset] [])) _
    exact kt
  rw [show ((0 : Int32) + (1 : Int32)) = (1 : Int32) from by decide] at K25
  have K26 : ∀ t, Steps p.tables e below (T24.setTop (mkF m 11 #[.val (.ref a0), .val (.ref a1), .val (.ref b3), .val (.int (1 : Int32)), .val (.int (1 : Int32)), .val (.double r1), .second, .val (.int (0 : Int32)), .unset, .unset] [(.ref a0), (.int (1 : Int32))])) t → Steps p.tables e below G0 t := by
    intro t kt
    refine K25 t ?_
    refine XS.goto X24.here hx rfl (pc0 := 88) (pc' := 9) rfl (hb hby d6_88) (by decide) (by decide) ?_
    show Steps p.tables e below (T24.setTop (mkF m 9 #[.val (.ref a0), .val (.ref a1), .val (.ref b3), .val (.int (1 : Int32)), .val (.int (1 : Int32)), .val (.double r1), .second, .val (.int (0 : Int32)), .unset, .unset] [])) _
    refine XS.iloadN X24.here hx rfl (hb hby d6_9) rfl ?_
    show Steps p.tables e below (T24.setTop (mkF m 10 #[.val (.ref a0), .val (.ref a1), .val (.ref b3), .val (.int (1 : Int32)), .val (.int (1 : Int32)), .val (.double r1), .second, .val (.int (0 : Int32)), .unset, .unset] [(.int (1 : Int32))])) _
    refine XS.aloadN X24.here hx rfl (hb hby d6_10) rfl rfl ?_
    show Steps p.tables e below (T24.setTop (mkF m 11 #[.val (.ref a0), .val (.ref a1), .val (.ref b3), .val (.int (1 : Int32)), .val (.int (1 : Int32)), .val (.double r1), .second, .val (.int (0 : Int32)), .unset, .unset] [(.ref a0), (.int (1 : Int32))])) _
    exact kt
  have f27 := (f5.other W24 (Or.inl ne_a0_b3))
  obtain ⟨T28, X28, e28, st28⟩ := getF X24 hx hZ hown (host := "") (Or.inl (hw _ (List.mem_of_getElem? (i := 41) rfl))) Via.refl e24 f27 (g := (mkF m 11 #[.val (.ref a0), .val (.ref a1), .val (.ref b3), .val (.int (1 : Int32)), .val (.int (1 : Int32)), .val (.double r1), .second, .val (.int (0 : Int32)), .unset, .unset] [(.ref a0), (.int (1 : Int32))])) rfl rfl (hb hby d6_11)
  have K28 : ∀ t, Steps p.tables e below (T28.setTop (mkF m 14 #[.val (.ref a0), .val (.ref a1), .val (.ref b3), .val (.int (1 : Int32)), .val (.int (1 : Int32)), .val (.double r1), .second, .val (.int (0 : Int32)), .unset, .unset] [(.int (2 : Int32)), (.int (1 : Int32))])) t → Steps p.tables e below G0 t := fun t kt => K26 t (st28 _ kt)
  have K29 : ∀ t, Steps p.tables e below (T28.setTop (mkF m 18 #[.val (.ref a0), .val (.ref a1), .val (.ref b3), .val (.int (1 : Int32)), .val (.int (1 : Int32)), .val (.double r1), .second, .val (.int (0 : Int32)), .unset, .unset] [(.ref a0)])) t → Steps p.tables e below G0 t := by
    intro t kt
    refine K28 t ?_
    refine XS.icmpNo X28.here hx rfl (hb hby d6_14) rfl (tlt (by decide)).2.1 ?_
    show Steps p.tables e below (T28.setTop (mkF m 17 #[.val (.ref a0), .val (.ref a1), .val (.ref b3), .val (.int (1 : Int32)), .val (.int (1 : Int32)), .val (.double r1), .second, .val (.int (0 : Int32)), .unset, .unset] [])) _
    refine XS.aloadN X28.here hx rfl (hb hby d6_17) rfl rfl ?_
    show Steps p.tables e below (T28.setTop (mkF m 18 #[.val (.ref a0), .val (.ref a1), .val (.ref b3), .val (.int (1 : Int32)), .val (.int (1 : Int32)), .val (.double r1), .second, .val (.int (0 : Int32)), .unset, .unset] [(.ref a0)])) _
    exact kt
  have f30 := (f8.other W24 (Or.inl ne_a0_b3))
  obtain ⟨T31, X31, e31, st31⟩ := getF X28 hx hZ hown (host := "") (Or.inl (hw _ (List.mem_of_getElem? (i := 29) rfl))) Via.refl e28 f30 (g := (mkF m 18 #[.val (.ref a0), .val (.ref a1), .val (.ref b3), .val (.int (1 : Int32)), .val (.int (1 : Int32)), .val (.double r1), .second, .val (.int (0 : Int32)), .unset, .unset] [(.ref a0)])) rfl rfl (hb hby d6_18)
  have K31 : ∀ t, Steps p.tables e below (T31.setTop (mkF m 21 #[.val (.ref a0), .val (.ref a1), .val (.ref b3), .val (.int (1 : Int32)), .val (.int (1 : Int32)), .val (.double r1), .second, .val (.int (0 : Int32)), .unset, .unset] [(.ref pe)])) t → Steps p.tables e below G0 t := fun t kt => K29 t (st31 _ kt)
  have K32 : ∀ t, Steps p.tables e below (T31.setTop (mkF m 22 #[.val (.ref a0), .val (.ref a1), .val (.ref b3), .val (.int (1 : Int32)), .val (.int (1 : Int32)), .val (.double r1), .second, .val (.int (0 : Int32)), .unset, .unset] [(.int (1 : Int32)), (.ref pe)])) t → Steps p.tables e below G0 t := by
    intro t kt
    refine K31 t ?_
    refine XS.iloadN X31.here hx rfl (hb hby d6_21) rfl ?_
    show Steps p.tables e below (T31.setTop (mkF m 22 #[.val (.ref a0), .val (.ref a1), .val (.ref b3), .val (.int (1 : Int32)), .val (.int (1 : Int32)), .val (.double r1), .second, .val (.int (0 : Int32)), .unset, .unset] [(.int (1 : Int32)), (.ref pe)])) _
    exact kt
  have f33 := (f11.other W24 ne_pe_b3)
  obtain ⟨cl34, Ar34, qq34, S34, M34, H34, GG34⟩ := id f33
  have hin34 : ¬ ((1 : Int32) < 0 ∨ cl34.slots.size ≤ ((1 : Int32)).toNatClampNeg) := inb_of S34 ⟨by decide, by decide⟩
  have hat34 : cl34.slots[((1 : Int32)).toNatClampNeg]? = some (.int (0 : Int32)) := Has.at H34 hin34 rfl
  have K35 : ∀ t, Steps p.tables e below (T31.setTop (mkF m 28 #[.val (.ref a0), .val (.ref a1), .val (.ref b3), .val (.int (1 : Int32)), .val (.int (0 : Int32)), .val (.double r1), .second, .val (.int (0 : Int32)), .unset, .unset] [(.int (0 : Int32)), (.ref a1)])) t → Steps p.tables e below G0 t := by
    intro t kt
    refine K32 t ?_
    refine X31.iaload hx (j := (1 : Int32)) (v := (.int (0 : Int32))) (by rw [e31]; exact (Ar34).1) (State.isArrayOf_alike hZ.alike (Ar34).2.1) (Ar34).2.2 hin34 hat34 (g := (mkF m 22 #[.val (.ref a0), .val (.ref a1), .val (.ref b3), .val (.int (1 : Int32)), .val (.int (1 : Int32)), .val (.double r1), .second, .val (.int (0 : Int32)), .unset, .unset] [(.int (1 : Int32)), (.ref pe)])) rfl rfl (hb hby d6_22) _ ?_
    show Steps p.tables e below (T31.setTop (mkF m 23 #[.val (.ref a0), .val (.ref a1), .val (.ref b3), .val (.int (1 : Int32)), .val (.int (1 : Int32)), .val (.double r1), .second, .val (.int (0 : Int32)), .unset, .unset] [(.int (0 : Int32))])) _
    refine XS.istore X31.here hx rfl (hb hby d6_23) rfl (l' := #[.val (.ref a0), .val (.ref a1), .val (.ref b3), .val (.int (1 : Int32)), .val (.int (0 : Int32)), .val (.double r1), .second, .val (.int (0 : Int32)), .unset, .unset]) rfl ?_
    show Steps p.tables e below (T31.setTop (mkF m 25 #[.val (.ref a0), .val (.ref a1), .val (.ref b3), .val (.int (1 : Int32)), .val (.int (0 : Int32)), .val (.double r1), .second, .val (.int (0 : Int32)), .unset, .unset] [])) _
    refine XS.aloadN X31.here hx rfl (hb hby d6_25) rfl rfl ?_
    show Steps p.tables e below (T31.setTop (mkF m 26 #[.val (.ref a0), .val (.ref a1), .val (.ref b3), .val (.int (1 : Int32)), .val (.int (0 : Int32)), .val (.double r1), .second, .val (.int (0 : Int32)), .unset, .unset] [(.ref a1)])) _
    refine XS.iload X31.here hx rfl (hb hby d6_26) rfl ?_
    show Steps p.tables e below (T31.setTop (mkF m 28 #[.val (.ref a0), .val (.ref a1), .val (.ref b3), .val (.int (1 : Int32)), .val (.int (0 : Int32)), .val (.double r1), .second, .val (.int (0 : Int32)), .unset, .unset] [(.int (0 : Int32)), (.ref a1)])) _
    exact kt
  have f36 := (f14.other W24 ne_a1_b3)
  obtain ⟨cl37, Ar37, qq37, S37, M37, H37, GG37⟩ := id f36
  have hin37 : ¬ ((0 : Int32) < 0 ∨ cl37.slots.size ≤ ((0 : Int32)).toNatClampNeg) := inb_of S37 ⟨by decide, by decide⟩
  have hat37 : cl37.slots[((0 : Int32)).toNatClampNeg]? = some (.double r0) := Has.at H37 hin37 rfl
  have K38 : ∀ t, Steps p.tables e below (T31.setTop (mkF m 37 #[.val (.ref a0), .val (.ref a1), .val (.ref b3), .val (.int (1 : Int32)), .val (.int (0 : Int32)), .val (.double r0), .second, .val (.int (0 : Int32)), .unset, .unset] [(.ref a0), (.int (0 : Int32))])) t → Steps p.tables e below G0 t := by
    intro t kt
    refine K35 t ?_
    refine X31.daload hx (j := (0 : Int32)) (v := (.double r0)) (by rw [e31]; exact (Ar37).1) (State.isArrayOf_alike hZ.alike (Ar37).2.1) (Ar37).2.2 hin37 hat37 (g := (mkF m 28 #[.val (.ref a0), .val (.ref a1), .val (.ref b3), .val (.int (1 : Int32)), .val (.int (0 : Int32)), .val (.double r1), .second, .val (.int (0 : Int32)), .unset, .unset] [(.int (0 : Int32)), (.ref a1)])) rfl rfl (hb hby d6_28) _ ?_
    show Steps p.tables e below (T31.setTop (mkF m 29 #[.val (.ref a0), .val (.ref a1), .val (.ref b3), .val (.int (1 : Int32)), .val (.int (0 : Int32)), .val (.double r1), .second, .val (.int (0 : Int32)), .unset, .unset] [(.double r0)])) _
    refine XS.dstore X31.here hx rfl (hb hby d6_29) rfl (l' := #[.val (.ref a0), .val (.ref a1), .val (.ref b3), .val (.int (1 : Int32)), .val (.int (0 : Int32)), .val (.double r0), .second, .val (.int (0 : Int32)), .unset, .unset]) rfl ?_
    show Steps p.tables e below (T31.setTop (mkF m 31 #[.val (.ref a0), .val (.ref a1), .val (.ref b3), .val (.int (1 : Int32)), .val (.int (0 : Int32)), .val (.double r0), .second, .val (.int (0 : Int32)), .unset, .unset] [])) _
    refine XS.iconst X31.here hx rfl (hb hby d6_31) ?_
    show Steps p.tables e below (T31.setTop (mkF m 32 #[.val (.ref a0), .val (.ref a1), .val (.ref b3), .val (.int (1 : Int32)), .val (.int (0 : Int32)), .val (.double r0), .second, .val (.int (0 : Int32)), .unset, .unset] [(.int (0 : Int32))])) _
    refine XS.istore X31.here hx rfl (hb hby d6_32) rfl (l' := #[.val (.ref a0), .val (.ref a1), .val (.ref b3), .val (.int (1 : Int32)), .val (.int (0 : Int32)), .val (.double r0), .second, .val (.int (0 : Int32)), .unset, .unset]) rfl ?_
    show Steps p.tables e below (T31.setTop (mkF m 34 #[.val (.ref a0), .val (.ref a1), .val (.ref b3), .val (.int (1 : Int32)), .val (.int (0 : Int32)), .val (.double r0), .second, .val (.int (0 : Int32)), .unset, .unset] [])) _
    refine XS.iload X31.here hx rfl (hb hby d6_34) rfl ?_
    show Steps p.tables e below (T31.setTop (mkF m 36 #[.val (.ref a0), .val (.ref a1), .val (.ref b3), .val (.int (1 : Int32)), .val (.int (0 : Int32)), .val (.double r0), .second, .val (.int (0 : Int32)), .unset, .unset] [(.int (0 : Int32))])) _
    refine XS.aloadN X31.here hx rfl (hb hby d6_36) rfl rfl ?_
    show Steps p.tables e below (T31.setTop (mkF m 37 #[.val (.ref a0), .val (.ref a1), .val (.ref b3), .val (.int (1 : Int32)), .val (.int (0 : Int32)), .val (.double r0), .second, .val (.int (0 : Int32)), .unset, .unset] [(.ref a0), (.int (0 : Int32))])) _
    exact kt
  have f39 := (f17.other W24 (Or.inl ne_a0_b3))
  obtain ⟨T40, X40, e40, st40⟩ := getF X31 hx hZ hown (host := "") (Or.inl (hw _ (List.mem_of_getElem? (i := 23) rfl))) Via.refl e31 f39 (g := (mkF m 37 #[.val (.ref a0), .val (.ref a1), .val (.ref b3), .val (.int (1 : Int32)), .val (.int (0 : Int32)), .val (.double r0), .second, .val (.int (0 : Int32)), .unset, .unset] [(.ref a0), (.int (0 : Int32))])) rfl rfl (hb hby d6_37)
  have K40 : ∀ t, Steps p.tables e below (T40.setTop (mkF m 40 #[.val (.ref a0), .val (.ref a1), .val (.ref b3), .val (.int (1 : Int32)), .val (.int (0 : Int32)), .val (.double r0), .second, .val (.int (0 : Int32)), .unset, .unset] [(.ref ln), (.int (0 : Int32))])) t → Steps p.tables e below G0 t := fun t kt => K38 t (st40 _ kt)
  have K41 : ∀ t, Steps p.tables e below (T40.setTop (mkF m 42 #[.val (.ref a0), .val (.ref a1), .val (.ref b3), .val (.int (1 : Int32)), .val (.int (0 : Int32)), .val (.double r0), .second, .val (.int (0 : Int32)), .unset, .unset] [(.int (0 : Int32)), (.ref ln), (.int (0 : Int32))])) t → Steps p.tables e below G0 t := by
    intro t kt
    refine K40 t ?_
    refine XS.iload X40.here hx rfl (hb hby d6_40) rfl ?_
    show Steps p.tables e below (T40.setTop (mkF m 42 #[.val (.ref a0), .val (.ref a1), .val (.ref b3), .val (.int (1 : Int32)), .val (.int (0 : Int32)), .val (.double r0), .second, .val (.int (0 : Int32)), .unset, .unset] [(.int (0 : Int32)), (.ref ln), (.int (0 : Int32))])) _
    exact kt
  have f42 := (f20.other W24 ne_ln_b3)
  obtain ⟨cl43, Ar43, qq43, S43, M43, H43, GG43⟩ := id f42
  have hin43 : ¬ ((0 : Int32) < 0 ∨ cl43.slots.size ≤ ((0 : Int32)).toNatClampNeg) := inb_of S43 ⟨by decide, by decide⟩
  have hat43 : cl43.slots[((0 : Int32)).toNatClampNeg]? = some (.int (0 : Int32)) := Has.at H43 hin43 rfl
  have K44 : ∀ t, Steps p.tables e below (T40.setTop (mkF m 84 #[.val (.ref a0), .val (.ref a1), .val (.ref b3), .val (.int (1 : Int32)), .val (.int (0 : Int32)), .val (.double r0), .second, .val (.int (0 : Int32)), .unset, .unset] [(.double r0), (.int (1 : Int32)), (.ref b3)])) t → Steps p.tables e below G0 t := by
    intro t kt
    refine K41 t ?_
    refine X40.iaload hx (j := (0 : Int32)) (v := (.int (0 : Int32))) (by rw [e40]; exact (Ar43).1) (State.isArrayOf_alike hZ.alike (Ar43).2.1) (Ar43).2.2 hin43 hat43 (g := (mkF m 42 #[.val (.ref a0), .val (.ref a1), .val (.ref b3), .val (.int (1 : Int32)), .val (.int (0 : Int32)), .val (.double r0), .second, .val (.int (0 : Int32)), .unset, .unset] [(.int (0 : Int32)), (.ref ln), (.int (0 : Int32))])) rfl rfl (hb hby d6_42) _ ?_
    show Steps p.tables e below (T40.setTop (mkF m 43 #[.val (.ref a0), .val (.ref a1), .val (.ref b3), .val (.int (1 : Int32)), .val (.int (0 : Int32)), .val (.double r0), .second, .val (.int (0 : Int32)), .unset, .unset] [(.int (0 : Int32)), (.int (0 : Int32))])) _
    refine XS.icmpYes X40.here hx rfl (pc0 := 43) (pc' := 80) rfl (hb hby d6_43) rfl (flt (by decide)).2.1 (by decide) (by decide) ?_
    show Steps p.tables e below (T40.setTop (mkF m 80 #[.val (.ref a0), .val (.ref a1), .val (.ref b3), .val (.int (1 : Int32)), .val (.int (0 : Int32)), .val (.double r0), .second, .val (.int (0 : Int32)), .unset, .unset] [])) _
    refine XS.aloadN X40.here hx rfl (hb hby d6_80) rfl rfl ?_
    show Steps p.tables e below (T40.setTop (mkF m 81 #[.val (.ref a0), .val (.ref a1), .val (.ref b3), .val (.int (1 : Int32)), .val (.int (0 : Int32)), .val (.double r0), .second, .val (.int (0 : Int32)), .unset, .unset] [(.ref b3)])) _
    refine XS.iloadN X40.here hx rfl (hb hby d6_81) rfl ?_
    show Steps p.tables e below (T40.setTop (mkF m 82 #[.val (.ref a0), .val (.ref a1), .val (.ref b3), .val (.int (1 : Int32)), .val (.int (0 : Int32)), .val (.double r0), .second, .val (.int (0 : Int32)), .unset, .unset] [(.int (1 : Int32)), (.ref b3)])) _
    refine XS.dload X40.here hx rfl (hb hby d6_82) rfl ?_
    show Steps p.tables e below (T40.setTop (mkF m 84 #[.val (.ref a0), .val (.ref a1), .val (.ref b3), .val (.int (1 : Int32)), .val (.int (0 : Int32)), .val (.double r0), .second, .val (.int (0 : Int32)), .unset, .unset] [(.double r0), (.int (1 : Int32)), (.ref b3)])) _
    exact kt
  obtain ⟨cl45, Ar45, qq45, S45, M45, H45, GG45⟩ := id VL24
  have hin45 : ¬ ((1 : Int32) < 0 ∨ cl45.slots.size ≤ ((1 : Int32)).toNatClampNeg) := inb_of S45 ⟨by decide, by decide⟩
  obtain ⟨T46, h46, X46, e46, W46, st46⟩ := stD X40 hx hZ e40 Ar45 (j := (1 : Int32)) hin45 (g := (mkF m 84 #[.val (.ref a0), .val (.ref a1), .val (.ref b3), .val (.int (1 : Int32)), .val (.int (0 : Int32)), .val (.double r0), .second, .val (.int (0 : Int32)), .unset, .unset] [(.double r0), (.int (1 : Int32)), (.ref b3)])) rfl rfl (hb hby d6_84)
  have K46 : ∀ t, Steps p.tables e below (T46.setTop (mkF m 85 #[.val (.ref a0), .val (.ref a1), .val (.ref b3), .val (.int (1 : Int32)), .val (.int (0 : Int32)), .val (.double r0), .second, .val (.int (0 : Int32)), .unset, .unset] [])) t → Steps p.tables e below G0 t := fun t kt => K44 t (st46 _ kt)
  have Z46 : n0 ≤ h46.size := Nat.le_trans Z24 (Keep.of_wr W46).1
  have VL46 : Arv Z h46 b3 k3 .double (2 : Int32) [(.double r1), (.double r0)] (.double 0) := Arv.set Ar45 qq45 S45 M45 H45 GG45 rfl W46 1 rfl (Nat.le_of_ble_eq_true rfl)
  have N46 := Fr.snoc X46 N24 gn3
  have K47 : ∀ t, Steps p.tables e below (T46.setTop (mkF m 88 #[.val (.ref a0), .val (.ref a1), .val (.ref b3), .val (.int ((1 : Int32) + (1 : Int32))), .val (.int (0 : Int32)), .val (.double r0), .second, .val (.int (0 : Int32)), .unset, .unset] [])) t → Steps p.tables e below G0 t := by
    intro t kt
    refine K46 t ?_
    refine XS.iinc X46.here hx rfl (hb hby d6_85) rfl (l' := #[.val (.ref a0), .val (.ref a1), .val (.ref b3), .val (.int ((1 : Int32) + (1 : Int32))), .val (.int (0 : Int32)), .val (.double r0), .second, .val (.int (0 : Int32)), .unset, .unset]) rfl ?_
    show Steps p.tables e below (T46.setTop (mkF m 88 #[.val (.ref a0), .val (.ref a1), .val (.ref b3), .val (.int ((1 : Int32) + (1 : Int32))), .val (.int (0 : Int32)), .val (.double r0), .second, .val (.int (0 : Int32)), .unset, .unset] [])) _
    exact kt
  rw [show ((1 : Int32) + (1 : Int32)) = (2 : Int32) from by decide] at K47
  have K48 : ∀ t, Steps p.tables e below (T46.setTop (mkF m 11 #[.val (.ref a0), .val (.ref a1), .val (.ref b3), .val (.int (2 : Int32)), .val (.int (0 : Int32)), .val (.double r0), .second, .val (.int (0 : Int32)), .unset, .unset] [(.ref a0), (.int (2 : Int32))])) t → Steps p.tables e below G0 t := by
    intro t kt
    refine K47 t ?_
    refine XS.goto X46.here hx rfl (pc0 := 88) (pc' := 9) rfl (hb hby d6_88) (by decide) (by decide) ?_
    show Steps p.tables e below (T46.setTop (mkF m 9 #[.val (.ref a0), .val (.ref a1), .val (.ref b3), .val (.int (2 : Int32)), .val (.int (0 : Int32)), .val (.double r0), .second, .val (.int (0 : Int32)), .unset, .unset] [])) _
    refine XS.iloadN X46.here hx rfl (hb hby d6_9) rfl ?_
    show Steps p.tables e below (T46.setTop (mkF m 10 #[.val (.ref a0), .val (.ref a1), .val (.ref b3), .val (.int (2 : Int32)), .val (.int (0 : Int32)), .val (.double r0), .second, .val (.int (0 : Int32)), .unset, .unset] [(.int (2 : Int32))])) _
    refine XS.aloadN X46.here hx rfl (hb hby d6_10) rfl rfl ?_
    show Steps p.tables e below (T46.setTop (mkF m 11 #[.val (.ref a0), .val (.ref a1), .val (.ref b3), .val (.int (2 : Int32)), .val (.int (0 : Int32)), .val (.double r0), .second, .val (.int (0 : Int32)), .unset, .unset] [(.ref a0), (.int (2 : Int32))])) _
    exact kt
  have f49 := (f27.other W46 (Or.inl ne_a0_b3))
  obtain ⟨T50, X50, e50, st50⟩ := getF X46 hx hZ hown (host := "") (Or.inl (hw _ (List.mem_of_getElem? (i := 41) rfl))) Via.refl e46 f49 (g := (mkF m 11 #[.val (.ref a0), .val (.ref a1), .val (.ref b3), .val (.int (2 : Int32)), .val (.int (0 : Int32)), .val (.double r0), .second, .val (.int (0 : Int32)), .unset, .unset] [(.ref a0), (.int (2 : Int32))])) rfl rfl (hb hby d6_11)
  have K50 : ∀ t, Steps p.tables e below (T50.setTop (mkF m 14 #[.val (.ref a0), .val (.ref a1), .val (.ref b3), .val (.int (2 : Int32)), .val (.int (0 : Int32)), .val (.double r0), .second, .val (.int (0 : Int32)), .unset, .unset] [(.int (2 : Int32)), (.int (2 : Int32))])) t → Steps p.tables e below G0 t := fun t kt => K48 t (st50 _ kt)
  have K51 : ∀ t, Steps p.tables e below (T50.setTop (mkF m 92 #[.val (.ref a0), .val (.ref a1), .val (.ref b3), .val (.int (2 : Int32)), .val (.int (0 : Int32)), .val (.double r0), .second, .val (.int (0 : Int32)), .unset, .unset] [(.ref a0)])) t → Steps p.tables e below G0 t := by
    intro t kt
    refine K50 t ?_
    refine XS.icmpYes X50.here hx rfl (pc0 := 14) (pc' := 91) rfl (hb hby d6_14) rfl (flt (by decide)).2.1 (by decide) (by decide) ?_
    show Steps p.tables e below (T50.setTop (mkF m 91 #[.val (.ref a0), .val (.ref a1), .val (.ref b3), .val (.int (2 : Int32)), .val (.int (0 : Int32)), .val (.double r0), .second, .val (.int (0 : Int32)), .unset, .unset] [])) _
    refine XS.aloadN X50.here hx rfl (hb hby d6_91) rfl rfl ?_
    show Steps p.tables e below (T50.setTop (mkF m 92 #[.val (.ref a0), .val (.ref a1), .val (.ref b3), .val (.int (2 : Int32)), .val (.int (0 : Int32)), .val (.double r0), .second, .val (.int (0 : Int32)), .unset, .unset] [(.ref a0)])) _
    exact kt
  have f52 := (((fc_1.ext E3).other W24 (Or.inl ne_a0_b3)).other W46 (Or.inl ne_a0_b3))
  obtain ⟨T53, X53, e53, st53⟩ := getF X50 hx hZ hown (host := "") (Or.inl (hw _ (List.mem_of_getElem? (i := 9) rfl))) Via.refl e50 f52 (g := (mkF m 92 #[.val (.ref a0), .val (.ref a1), .val (.ref b3), .val (.int (2 : Int32)), .val (.int (0 : Int32)), .val (.double r0), .second, .val (.int (0 : Int32)), .unset, .unset] [(.ref a0)])) rfl rfl (hb hby d6_92)
  have K53 : ∀ t, Steps p.tables e below (T53.setTop (mkF m 95 #[.val (.ref a0), .val (.ref a1), .val (.ref b3), .val (.int (2 : Int32)), .val (.int (0 : Int32)), .val (.double r0), .second, .val (.int (0 : Int32)), .unset, .unset] [(.int (2 : Int32))])) t → Steps p.tables e below G0 t := fun t kt => K51 t (st53 _ kt)
  have f54 := (((fc_0.ext E3).wr W24).wr W46)
  have f55 := (((fc_10.ext E3).other W24 ne_rb_b3).other W46 ne_rb_b3)
  have f56 := (((fc_11.ext E3).other W24 ne_ml_b3).other W46 ne_ml_b3)
  have f57 := (f42.other W46 ne_ln_b3)
  have f58 := (f33.other W46 ne_pe_b3)
  have f59 := (((fc_14.ext E3).other W24 ne_pu_b3).other W46 ne_pu_b3)
  have f60 := (((fc_15.ext E3).other W24 ne_pc_b3).other W46 ne_pc_b3)
  have f61 := (f36.other W46 ne_a1_b3)
  have f62 := (((V_u0.ext E3).other W24 ne_u0_b3).other W46 ne_u0_b3)
  have f63 := (((V_u1.ext E3).other W24 ne_u1_b3).other W46 ne_u1_b3)
  have f64 := (((V_k0.ext E3).other W24 ne_k0_b3).other W46 ne_k0_b3)
  have f65 := (((V_k1.ext E3).other W24 ne_k1_b3).other W46 ne_k1_b3)
  obtain ⟨T66, h66, k66, X66, e66, E66, A66, EA66, st66⟩ := newPE X53 hx hZ (hw _ (List.mem_of_getElem? (i := 35) rfl)) e53 (g := (mkF m 95 #[.val (.ref a0), .val (.ref a1), .val (.ref b3), .val (.int (2 : Int32)), .val (.int (0 : Int32)), .val (.double r0), .second, .val (.int (0 : Int32)), .unset, .unset] [(.int (2 : Int32))])) rfl (hb hby d6_95) rfl (by decide) (cap := 2) (by decide) (by decide) (by decide) (by decide) (ad := "[D") (by decide)
  obtain ⟨b66, g66⟩ : ∃ z, z = h46.size := ⟨_, rfl⟩
  rw [← g66] at A66 EA66 st66
  have V66 := Arv.new A66 (by decide)
  have gn66 : n0 ≤ b66 := Nat.le_trans Z46 (Nat.le_of_eq g66.symm)
  have Z66 : n0 ≤ h66.size := Nat.le_trans Z46 E66.1
  have K66 : ∀ t, Steps p.tables e below (T66.setTop (mkF m 97 #[.val (.ref a0), .val (.ref a1), .val (.ref b3), .val (.int (2 : Int32)), .val (.int (0 : Int32)), .val (.double r0), .second, .val (.int (0 : Int32)), .unset, .unset] [(.ref b66)])) t → Steps p.tables e below G0 t := fun t kt => K53 t (st66 _ kt)
  have ne_a0_b66 : a0 ≠ b66 := Nat.ne_of_lt (Nat.lt_of_lt_of_le (f54).lt (Nat.le_of_eq g66.symm))
  have ne_rb_b66 : rb ≠ b66 := Nat.ne_of_lt (Nat.lt_of_lt_of_le (f55).lt (Nat.le_of_eq g66.symm))
  have ne_ml_b66 : ml ≠ b66 := Nat.ne_of_lt (Nat.lt_of_lt_of_le (f56).lt (Nat.le_of_eq g66.symm))
  have ne_ln_b66 : ln ≠ b66 := Nat.ne_of_lt (Nat.lt_of_lt_of_le (f57).lt (Nat.le_of_eq g66.symm))
  have ne_pe_b66 : pe ≠ b66 := Nat.ne_of_lt (Nat.lt_of_lt_of_le (f58).lt (Nat.le_of_eq g66.symm))
  have ne_pu_b66 : pu ≠ b66 := Nat.ne_of_lt (Nat.lt_of_lt_of_le (f59).lt (Nat.le_of_eq g66.symm))
  have ne_pc_b66 : pc ≠ b66 := Nat.ne_of_lt (Nat.lt_of_lt_of_le (f60).lt (Nat.le_of_eq g66.symm))
  have ne_a1_b66 : a1 ≠ b66 := Nat.ne_of_lt (Nat.lt_of_lt_of_le (f61).lt (Nat.le_of_eq g66.symm))
  have ne_u0_b66 : u0 ≠ b66 := Nat.ne_of_lt (Nat.lt_of_lt_of_le (f62).lt (Nat.le_of_eq g66.symm))
  have ne_u1_b66 : u1 ≠ b66 := Nat.ne_of_lt (Nat.lt_of_lt_of_le (f63).lt (Nat.le_of_eq g66.symm))
  have ne_k0_b66 : k0 ≠ b66 := Nat.ne_of_lt (Nat.lt_of_lt_of_le (f64).lt (Nat.le_of_eq g66.symm))
  have ne_k1_b66 : k1 ≠ b66 := Nat.ne_of_lt (Nat.lt_of_lt_of_le (f65).lt (Nat.le_of_eq g66.symm))
  have ne_b3_b66 : b3 ≠ b66 := Nat.ne_of_lt (Nat.lt_of_lt_of_le (VL46).lt (Nat.le_of_eq g66.symm))
  have VL66 : Arv Z h66 b66 k66 .double (2 : Int32) [(.double 0), (.double 0)] (.double 0) := V66.pad (pad_rep [] (.double 0) 2)
  have K67 : ∀ t, Steps p.tables e below (T66.setTop (mkF m 99 #[.val (.ref a0), .val (.ref a1), .val (.ref b3), .val (.ref b66), .val (.int (0 : Int32)), .val (.double r0), .second, .val (.int (0 : Int32)), .unset, .unset] [(.ref a0)])) t → Steps p.tables e below G0 t := by
    intro t kt
    refine K66 t ?_
    refine XS.astoreN X66.here hx rfl (hb hby d6_97) rfl rfl (l' := #[.val (.ref a0), .val (.ref a1), .val (.ref b3), .val (.ref b66), .val (.int (0 : Int32)), .val (.double r0), .second, .val (.int (0 : Int32)), .unset, .unset]) rfl ?_
    show Steps p.tables e below (T66.setTop (mkF m 98 #[.val (.ref a0), .val (.ref a1), .val (.ref b3), .val (.ref b66), .val (.int (0 : Int32)), .val (.double r0), .second, .val (.int (0 : Int32)), .unset, .unset] [])) _
    refine XS.aloadN X66.here hx rfl (hb hby d6_98) rfl rfl ?_
    show Steps p.tables e below (T66.setTop (mkF m 99 #[.val (.ref a0), .val (.ref a1), .val (.ref b3), .val (.ref b66), .val (.int (0 : Int32)), .val (.double r0), .second, .val (.int (0 : Int32)), .unset, .unset] [(.ref a0)])) _
    exact kt
  have f68 := (f49.ext E66)
  obtain ⟨T69, X69, e69, st69⟩ := getF X66 hx hZ hown (host := "") (Or.inl (hw _ (List.mem_of_getElem? (i := 41) rfl))) Via.refl e66 f68 (g := (mkF m 99 #[.val (.ref a0), .val (.ref a1), .val (.ref b3), .val (.ref b66), .val (.int (0 : Int32)), .val (.double r0), .second, .val (.int (0 : Int32)), .unset, .unset] [(.ref a0)])) rfl rfl (hb hby d6_99)
  have K69 : ∀ t, Steps p.tables e below (T69.setTop (mkF m 102 #[.val (.ref a0), .val (.ref a1), .val (.ref b3), .val (.ref b66), .val (.int (0 : Int32)), .val (.double r0), .second, .val (.int (0 : Int32)), .unset, .unset] [(.int (2 : Int32))])) t → Steps p.tables e below G0 t := fun t kt => K67 t (st69 _ kt)
  have K70 : ∀ t, Steps p.tables e below (T69.setTop (mkF m 106 #[.val (.ref a0), .val (.ref a1), .val (.ref b3), .val (.ref b66), .val (.int ((2 : Int32) - (1 : Int32))), .val (.double r0), .second, .val (.int (0 : Int32)), .unset, .unset] [])) t → Steps p.tables e below G0 t := by
    intro t kt
    refine K69 t ?_
    refine XS.iconst X69.here hx rfl (hb hby d6_102) ?_
    show Steps p.tables e below (T69.setTop (mkF m 103 #[.val (.ref a0), .val (.ref a1), .val (.ref b3), .val (.ref b66), .val (.int (0 : Int32)), .val (.double r0), .second, .val (.int (0 : Int32)), .unset, .unset] [(.int (1 : Int32)), (.int (2 : Int32))])) _
    refine XS.isub X69.here hx rfl (hb hby d6_103) rfl ?_
    show Steps p.tables e below (T69.setTop (mkF m 104 #[.val (.ref a0), .val (.ref a1), .val (.ref b3), .val (.ref b66), .val (.int (0 : Int32)), .val (.double r0), .second, .val (.int (0 : Int32)), .unset, .unset] [(.int ((2 : Int32) - (1 : Int32)))])) _
    refine XS.istore X69.here hx rfl (hb hby d6_104) rfl (l' := #[.val (.ref a0), .val (.ref a1), .val (.ref b3), .val (.ref b66), .val (.int ((2 : Int32) - (1 : Int32))), .val (.double r0), .second, .val (.int (0 : Int32)), .unset, .unset]) rfl ?_
    show Steps p.tables e below (T69.setTop (mkF m 106 #[.val (.ref a0), .val (.ref a1), .val (.ref b3), .val (.ref b66), .val (.int ((2 : Int32) - (1 : Int32))), .val (.double r0), .second, .val (.int (0 : Int32)), .unset, .unset] [])) _
    exact kt
  rw [show ((2 : Int32) - (1 : Int32)) = (1 : Int32) from by decide] at K70
  have K71 : ∀ t, Steps p.tables e below (T69.setTop (mkF m 112 #[.val (.ref a0), .val (.ref a1), .val (.ref b3), .val (.ref b66), .val (.int (1 : Int32)), .val (.double r0), .second, .val (.int (0 : Int32)), .unset, .unset] [(.ref a0)])) t → Steps p.tables e below G0 t := by
    intro t kt
    refine K70 t ?_
    refine XS.iload X69.here hx rfl (hb hby d6_106) rfl ?_
    show Steps p.tables e below (T69.setTop (mkF m 108 #[.val (.ref a0), .val (.ref a1), .val (.ref b3), .val (.ref b66), .val (.int (1 : Int32)), .val (.double r0), .second, .val (.int (0 : Int32)), .unset, .unset] [(.int (1 : Int32))])) _
    refine XS.ifNo X69.here hx rfl (hb hby d6_108) rfl ((if0 _ _).trans (flt (by decide)).1) ?_
    show Steps p.tables e below (T69.setTop (mkF m 111 #[.val (.ref a0), .val (.ref a1), .val (.ref b3), .val (.ref b66), .val (.int (1 : Int32)), .val (.double r0), .second, .val (.int (0 : Int32)), .unset, .unset] [])) _
    refine XS.aloadN X69.here hx rfl (hb hby d6_111) rfl rfl ?_
    show Steps p.tables e below (T69.setTop (mkF m 112 #[.val (.ref a0), .val (.ref a1), .val (.ref b3), .val (.ref b66), .val (.int (1 : Int32)), .val (.double r0), .second, .val (.int (0 : Int32)), .unset, .unset] [(.ref a0)])) _
    exact kt
  have f72 := ((((fc_8.ext E3).other W24 (Or.inl ne_a0_b3)).other W46 (Or.inl ne_a0_b3)).ext E66)
  obtain ⟨T73, X73, e73, st73⟩ := getF X69 hx hZ hown (host := "") (Or.inl (hw _ (List.mem_of_getElem? (i := 31) rfl))) Via.refl e69 f72 (g := (mkF m 112 #[.val (.ref a0), .val (.ref a1), .val (.ref b3), .val (.ref b66), .val (.int (1 : Int32)), .val (.double r0), .second, .val (.int (0 : Int32)), .unset, .unset] [(.ref a0)])) rfl rfl (hb hby d6_112)
  have K73 : ∀ t, Steps p.tables e below (T73.setTop (mkF m 115 #[.val (.ref a0), .val (.ref a1), .val (.ref b3), .val (.ref b66), .val (.int (1 : Int32)), .val (.double r0), .second, .val (.int (0 : Int32)), .unset, .unset] [(.ref pu)])) t → Steps p.tables e below G0 t := fun t kt => K71 t (st73 _ kt)
  have K74 : ∀ t, Steps p.tables e below (T73.setTop (mkF m 117 #[.val (.ref a0), .val (.ref a1), .val (.ref b3), .val (.ref b66), .val (.int (1 : Int32)), .val (.double r0), .second, .val (.int (0 : Int32)), .unset, .unset] [(.int (1 : Int32)), (.ref pu)])) t → Steps p.tables e below G0 t := by
    intro t kt
    refine K73 t ?_
    refine XS.iload X73.here hx rfl (hb hby d6_115) rfl ?_
    show Steps p.tables e below (T73.setTop (mkF m 117 #[.val (.ref a0), .val (.ref a1), .val (.ref b3), .val (.ref b66), .val (.int (1 : Int32)), .val (.double r0), .second, .val (.int (0 : Int32)), .unset, .unset] [(.int (1 : Int32)), (.ref pu)])) _
    exact kt
  have f75 := (f59.ext E66)
  obtain ⟨cl76, Ar76, qq76, S76, M76, H76, GG76⟩ := id f75
  have hin76 : ¬ ((1 : Int32) < 0 ∨ cl76.slots.size ≤ ((1 : Int32)).toNatClampNeg) := inb_of S76 ⟨by decide, by decide⟩
  have hat76 : cl76.slots[((1 : Int32)).toNatClampNeg]? = some (.ref u1) := Has.at H76 hin76 rfl
  have K77 : ∀ t, Steps p.tables e below (T73.setTop (mkF m 121 #[.val (.ref a0), .val (.ref a1), .val (.ref b3), .val (.ref b66), .val (.int (1 : Int32)), .val (.ref u1), .unset, .val (.int (0 : Int32)), .unset, .unset] [(.ref a0)])) t → Steps p.tables e below G0 t := by
    intro t kt
    refine K74 t ?_
    refine X73.aaload hx (j := (1 : Int32)) (v := (.ref u1)) (by rw [e73]; exact (Ar76).1) (State.isArrayOf_alike hZ.alike (Ar76).2.1) rfl (Ar76).2.2 hin76 hat76 (g := (mkF m 117 #[.val (.ref a0), .val (.ref a1), .val (.ref b3), .val (.ref b66), .val (.int (1 : Int32)), .val (.double r0), .second, .val (.int (0 : Int32)), .unset, .unset] [(.int (1 : Int32)), (.ref pu)])) rfl rfl (hb hby d6_117) _ ?_
    show Steps p.tables e below (T73.setTop (mkF m 118 #[.val (.ref a0), .val (.ref a1), .val (.ref b3), .val (.ref b66), .val (.int (1 : Int32)), .val (.double r0), .second, .val (.int (0 : Int32)), .unset, .unset] [(.ref u1)])) _
    refine XS.astore X73.here hx rfl (hb hby d6_118) rfl rfl (l' := #[.val (.ref a0), .val (.ref a1), .val (.ref b3), .val (.ref b66), .val (.int (1 : Int32)), .val (.ref u1), .unset, .val (.int (0 : Int32)), .unset, .unset]) rfl ?_
    show Steps p.tables e below (T73.setTop (mkF m 120 #[.val (.ref a0), .val (.ref a1), .val (.ref b3), .val (.ref b66), .val (.int (1 : Int32)), .val (.ref u1), .unset, .val (.int (0 : Int32)), .unset, .unset] [])) _
    refine XS.aloadN X73.here hx rfl (hb hby d6_120) rfl rfl ?_
    show Steps p.tables e below (T73.setTop (mkF m 121 #[.val (.ref a0), .val (.ref a1), .val (.ref b3), .val (.ref b66), .val (.int (1 : Int32)), .val (.ref u1), .unset, .val (.int (0 : Int32)), .unset, .unset] [(.ref a0)])) _
    exact kt
  have f78 := ((((fc_9.ext E3).other W24 (Or.inl ne_a0_b3)).other W46 (Or.inl ne_a0_b3)).ext E66)
  obtain ⟨T79, X79, e79, st79⟩ := getF X73 hx hZ hown (host := "") (Or.inl (hw _ (List.mem_of_getElem? (i := 33) rfl))) Via.refl e73 f78 (g := (mkF m 121 #[.val (.ref a0), .val (.ref a1), .val (.ref b3), .val (.ref b66), .val (.int (1 : Int32)), .val (.ref u1), .unset, .val (.int (0 : Int32)), .unset, .unset] [(.ref a0)])) rfl rfl (hb hby d6_121)
  have K79 : ∀ t, Steps p.tables e below (T79.setTop (mkF m 124 #[.val (.ref a0), .val (.ref a1), .val (.ref b3), .val (.ref b66), .val (.int (1 : Int32)), .val (.ref u1), .unset, .val (.int (0 : Int32)), .unset, .unset] [(.ref pc)])) t → Steps p.tables e below G0 t := fun t kt => K77 t (st79 _ kt)
  have K80 : ∀ t, Steps p.tables e below (T79.setTop (mkF m 126 #[.val (.ref a0), .val (.ref a1), .val (.ref b3), .val (.ref b66), .val (.int (1 : Int32)), .val (.ref u1), .unset, .val (.int (0 : Int32)), .unset, .unset] [(.int (1 : Int32)), (.ref pc)])) t → Steps p.tables e below G0 t := by
    intro t kt
    refine K79 t ?_
    refine XS.iload X79.here hx rfl (hb hby d6_124) rfl ?_
    show Steps p.tables e below (T79.setTop (mkF m 126 #[.val (.ref a0), .val (.ref a1), .val (.ref b3), .val (.ref b66), .val (.int (1 : Int32)), .val (.ref u1), .unset, .val (.int (0 : Int32)), .unset, .unset] [(.int (1 : Int32)), (.ref pc)])) _
    exact kt
  have f81 := (f60.ext E66)
  obtain ⟨cl82, Ar82, qq82, S82, M82, H82, GG82⟩ := id f81
  have hin82 : ¬ ((1 : Int32) < 0 ∨ cl82.slots.size ≤ ((1 : Int32)).toNatClampNeg) := inb_of S82 ⟨by decide, by decide⟩
  have hat82 : cl82.slots[((1 : Int32)).toNatClampNeg]? = some (.ref k1) := Has.at H82 hin82 rfl
  have K83 : ∀ t, Steps p.tables e below (T79.setTop (mkF m 132 #[.val (.ref a0), .val (.ref a1), .val (.ref b3), .val (.ref b66), .val (.int (1 : Int32)), .val (.ref u1), .val (.ref k1), .val (.int (0 : Int32)), .unset, .unset] [(.int (1 : Int32)), (.ref b3)])) t → Steps p.tables e below G0 t := by
    intro t kt
    refine K80 t ?_
    refine X79.aaload hx (j := (1 : Int32)) (v := (.ref k1)) (by rw [e79]; exact (Ar82).1) (State.isArrayOf_alike hZ.alike (Ar82).2.1) rfl (Ar82).2.2 hin82 hat82 (g := (mkF m 126 #[.val (.ref a0), .val (.ref a1), .val (.ref b3), .val (.ref b66), .val (.int (1 : Int32)), .val (.ref u1), .unset, .val (.int (0 : Int32)), .unset, .unset] [(.int (1 : Int32)), (.ref pc)])) rfl rfl (hb hby d6_126) _ ?_
    show Steps p.tables e below (T79.setTop (mkF m 127 #[.val (.ref a0), .val (.ref a1), .val (.ref b3), .val (.ref b66), .val (.int (1 : Int32)), .val (.ref u1), .unset, .val (.int (0 : Int32)), .unset, .unset] [(.ref k1)])) _
    refine XS.astore X79.here hx rfl (hb hby d6_127) rfl rfl (l' := #[.val (.ref a0), .val (.ref a1), .val (.ref b3), .val (.ref b66), .val (.int (1 : Int32)), .val (.ref u1), .val (.ref k1), .val (.int (0 : Int32)), .unset, .unset]) rfl ?_
    show Steps p.tables e below (T79.setTop (mkF m 129 #[.val (.ref a0), .val (.ref a1), .val (.ref b3), .val (.ref b66), .val (.int (1 : Int32)), .val (.ref u1), .val (.ref k1), .val (.int (0 : Int32)), .unset, .unset] [])) _
    refine XS.aloadN X79.here hx rfl (hb hby d6_129) rfl rfl ?_
    show Steps p.tables e below (T79.setTop (mkF m 130 #[.val (.ref a0), .val (.ref a1), .val (.ref b3), .val (.ref b66), .val (.int (1 : Int32)), .val (.ref u1), .val (.ref k1), .val (.int (0 : Int32)), .unset, .unset] [(.ref b3)])) _
    refine XS.iload X79.here hx rfl (hb hby d6_130) rfl ?_
    show Steps p.tables e below (T79.setTop (mkF m 132 #[.val (.ref a0), .val (.ref a1), .val (.ref b3), .val (.ref b66), .val (.int (1 : Int32)), .val (.ref u1), .val (.ref k1), .val (.int (0 : Int32)), .unset, .unset] [(.int (1 : Int32)), (.ref b3)])) _
    exact kt
  have f84 := (VL46.ext E66)
  obtain ⟨cl85, Ar85, qq85, S85, M85, H85, GG85⟩ := id f84
  have hin85 : ¬ ((1 : Int32) < 0 ∨ cl85.slots.size ≤ ((1 : Int32)).toNatClampNeg) := inb_of S85 ⟨by decide, by decide⟩
  have hat85 : cl85.slots[((1 : Int32)).toNatClampNeg]? = some (.double r0) := Has.at H85 hin85 rfl
  have K86 : ∀ t, Steps p.tables e below (T79.setTop (mkF m 142 #[.val (.ref a0), .val (.ref a1), .val (.ref b3), .val (.ref b66), .val (.int (1 : Int32)), .val (.ref u1), .val (.ref k1), .val (.double r0), .second, .val (.int (1 : Int32))] [(.ref u1), (.int (1 : Int32))])) t → Steps p.tables e below G0 t := by
    intro t kt
    refine K83 t ?_
    refine X79.daload hx (j := (1 : Int32)) (v := (.double r0)) (by rw [e79]; exact (Ar85).1) (State.isArrayOf_alike hZ.alike (Ar85).2.1) (Ar85).2.2 hin85 hat85 (g := (mkF m 132 #[.val (.ref a0), .val (.ref a1), .val (.ref b3), .val (.ref b66), .val (.int (1 : Int32)), .val (.ref u1), .val (.ref k1), .val (.int (0 : Int32)), .unset, .unset] [(.int (1 : Int32)), (.ref b3)])) rfl rfl (hb hby d6_132) _ ?_
    show Steps p.tables e below (T79.setTop (mkF m 133 #[.val (.ref a0), .val (.ref a1), .val (.ref b3), .val (.ref b66), .val (.int (1 : Int32)), .val (.ref u1), .val (.ref k1), .val (.int (0 : Int32)), .unset, .unset] [(.double r0)])) _
    refine XS.dstore X79.here hx rfl (hb hby d6_133) rfl (l' := #[.val (.ref a0), .val (.ref a1), .val (.ref b3), .val (.ref b66), .val (.int (1 : Int32)), .val (.ref u1), .val (.ref k1), .val (.double r0), .second, .unset]) rfl ?_
    show Steps p.tables e below (T79.setTop (mkF m 135 #[.val (.ref a0), .val (.ref a1), .val (.ref b3), .val (.ref b66), .val (.int (1 : Int32)), .val (.ref u1), .val (.ref k1), .val (.double r0), .second, .unset] [])) _
    refine XS.iconst X79.here hx rfl (hb hby d6_135) ?_
    show Steps p.tables e below (T79.setTop (mkF m 136 #[.val (.ref a0), .val (.ref a1), .val (.ref b3), .val (.ref b66), .val (.int (1 : Int32)), .val (.ref u1), .val (.ref k1), .val (.double r0), .second, .unset] [(.int (1 : Int32))])) _
    refine XS.istore X79.here hx rfl (hb hby d6_136) rfl (l' := #[.val (.ref a0), .val (.ref a1), .val (.ref b3), .val (.ref b66), .val (.int (1 : Int32)), .val (.ref u1), .val (.ref k1), .val (.double r0), .second, .val (.int (1 : Int32))]) rfl ?_
    show Steps p.tables e below (T79.setTop (mkF m 138 #[.val (.ref a0), .val (.ref a1), .val (.ref b3), .val (.ref b66), .val (.int (1 : Int32)), .val (.ref u1), .val (.ref k1), .val (.double r0), .second, .val (.int (1 : Int32))] [])) _
    refine XS.iload X79.here hx rfl (hb hby d6_138) rfl ?_
    show Steps p.tables e below (T79.setTop (mkF m 140 #[.val (.ref a0), .val (.ref a1), .val (.ref b3), .val (.ref b66), .val (.int (1 : Int32)), .val (.ref u1), .val (.ref k1), .val (.double r0), .second, .val (.int (1 : Int32))] [(.int (1 : Int32))])) _
    refine XS.aload X79.here hx rfl (hb hby d6_140) rfl rfl ?_
    show Steps p.tables e below (T79.setTop (mkF m 142 #[.val (.ref a0), .val (.ref a1), .val (.ref b3), .val (.ref b66), .val (.int (1 : Int32)), .val (.ref u1), .val (.ref k1), .val (.double r0), .second, .val (.int (1 : Int32))] [(.ref u1), (.int (1 : Int32))])) _
    exact kt
  have f87 := (f63.ext E66)
  obtain ⟨cl88, Ar88, qq88, S88, M88, H88, GG88⟩ := id f87
  have K89 : ∀ t, Steps p.tables e below (T79.setTop (mkF m 174 #[.val (.ref a0), .val (.ref a1), .val (.ref b3), .val (.ref b66), .val (.int (1 : Int32)), .val (.ref u1), .val (.ref k1), .val (.double r0), .second, .val (.int (1 : Int32))] [(.int (0 : Int32)), (.ref u1), (.ref b66)])) t → Steps p.tables e below G0 t := by
    intro t kt
    refine K86 t ?_
    refine X79.arraylength hx (by rw [e79]; exact (Ar88).1) (State.isArrayOf_alike hZ.alike (Ar88).2.1) (g := (mkF m 142 #[.val (.ref a0), .val (.ref a1), .val (.ref b3), .val (.ref b66), .val (.int (1 : Int32)), .val (.ref u1), .val (.ref k1), .val (.double r0), .second, .val (.int (1 : Int32))] [(.ref u1), (.int (1 : Int32))])) rfl rfl (hb hby d6_142) _ ?_
    rw [len_of S88 M88]
    show Steps p.tables e below (T79.setTop (mkF m 143 #[.val (.ref a0), .val (.ref a1), .val (.ref b3), .val (.ref b66), .val (.int (1 : Int32)), .val (.ref u1), .val (.ref k1), .val (.double r0), .second, .val (.int (1 : Int32))] [(.int (1 : Int32)), (.int (1 : Int32))])) _
    refine XS.icmpYes X79.here hx rfl (pc0 := 143) (pc' := 170) rfl (hb hby d6_143) rfl (flt (by decide)).2.1 (by decide) (by decide) ?_
    show Steps p.tables e below (T79.setTop (mkF m 170 #[.val (.ref a0), .val (.ref a1), .val (.ref b3), .val (.ref b66), .val (.int (1 : Int32)), .val (.ref u1), .val (.ref k1), .val (.double r0), .second, .val (.int (1 : Int32))] [])) _
    refine XS.aloadN X79.here hx rfl (hb hby d6_170) rfl rfl ?_
    show Steps p.tables e below (T79.setTop (mkF m 171 #[.val (.ref a0), .val (.ref a1), .val (.ref b3), .val (.ref b66), .val (.int (1 : Int32)), .val (.ref u1), .val (.ref k1), .val (.double r0), .second, .val (.int (1 : Int32))] [(.ref b66)])) _
    refine XS.aload X79.here hx rfl (hb hby d6_171) rfl rfl ?_
    show Steps p.tables e below (T79.setTop (mkF m 173 #[.val (.ref a0), .val (.ref a1), .val (.ref b3), .val (.ref b66), .val (.int (1 : Int32)), .val (.ref u1), .val (.ref k1), .val (.double r0), .second, .val (.int (1 : Int32))] [(.ref u1), (.ref b66)])) _
    refine XS.iconst X79.here hx rfl (hb hby d6_173) ?_
    show Steps p.tables e below (T79.setTop (mkF m 174 #[.val (.ref a0), .val (.ref a1), .val (.ref b3), .val (.ref b66), .val (.int (1 : Int32)), .val (.ref u1), .val (.ref k1), .val (.double r0), .second, .val (.int (1 : Int32))] [(.int (0 : Int32)), (.ref u1), (.ref b66)])) _
    exact kt
  obtain ⟨cl90, Ar90, qq90, S90, M90, H90, GG90⟩ := id f87
  have hin90 : ¬ ((0 : Int32) < 0 ∨ cl90.slots.size ≤ ((0 : Int32)).toNatClampNeg) := inb_of S90 ⟨by decide, by decide⟩
  have hat90 : cl90.slots[((0 : Int32)).toNatClampNeg]? = some (.int (0 : Int32)) := Has.at H90 hin90 rfl
  have K91 : ∀ t, Steps p.tables e below (T79.setTop (mkF m 180 #[.val (.ref a0), .val (.ref a1), .val (.ref b3), .val (.ref b66), .val (.int (1 : Int32)), .val (.ref u1), .val (.ref k1), .val (.double r0), .second, .val (.int (1 : Int32))] [(.int (0 : Int32)), (.ref k1), (.double r0), (.int (0 : Int32)), (.ref b66)])) t → Steps p.tables e below G0 t := by
    intro t kt
    refine K89 t ?_
    refine X79.iaload hx (j := (0 : Int32)) (v := (.int (0 : Int32))) (by rw [e79]; exact (Ar90).1) (State.isArrayOf_alike hZ.alike (Ar90).2.1) (Ar90).2.2 hin90 hat90 (g := (mkF m 174 #[.val (.ref a0), .val (.ref a1), .val (.ref b3), .val (.ref b66), .val (.int (1 : Int32)), .val (.ref u1), .val (.ref k1), .val (.double r0), .second, .val (.int (1 : Int32))] [(.int (0 : Int32)), (.ref u1), (.ref b66)])) rfl rfl (hb hby d6_174) _ ?_
    show Steps p.tables e below (T79.setTop (mkF m 175 #[.val (.ref a0), .val (.ref a1), .val (.ref b3), .val (.ref b66), .val (.int (1 : Int32)), .val (.ref u1), .val (.ref k1), .val (.double r0), .second, .val (.int (1 : Int32))] [(.int (0 : Int32)), (.ref b66)])) _
    refine XS.dload X79.here hx rfl (hb hby d6_175) rfl ?_
    show Steps p.tables e below (T79.setTop (mkF m 177 #[.val (.ref a0), .val (.ref a1), .val (.ref b3), .val (.ref b66), .val (.int (1 : Int32)), .val (.ref u1), .val (.ref k1), .val (.double r0), .second, .val (.int (1 : Int32))] [(.double r0), (.int (0 : Int32)), (.ref b66)])) _
    refine XS.aload X79.here hx rfl (hb hby d6_177) rfl rfl ?_
    show Steps p.tables e below (T79.setTop (mkF m 179 #[.val (.ref a0), .val (.ref a1), .val (.ref b3), .val (.ref b66), .val (.int (1 : Int32)), .val (.ref u1), .val (.ref k1), .val (.double r0), .second, .val (.int (1 : Int32))] [(.ref k1), (.double r0), (.int (0 : Int32)), (.ref b66)])) _
    refine XS.iconst X79.here hx rfl (hb hby d6_179) ?_
    show Steps p.tables e below (T79.setTop (mkF m 180 #[.val (.ref a0), .val (.ref a1), .val (.ref b3), .val (.ref b66), .val (.int (1 : Int32)), .val (.ref u1), .val (.ref k1), .val (.double r0), .second, .val (.int (1 : Int32))] [(.int (0 : Int32)), (.ref k1), (.double r0), (.int (0 : Int32)), (.ref b66)])) _
    exact kt
  have f92 := (f65.ext E66)
  obtain ⟨cl93, Ar93, qq93, S93, M93, H93, GG93⟩ := id f92
  have hin93 : ¬ ((0 : Int32) < 0 ∨ cl93.slots.size ≤ ((0 : Int32)).toNatClampNeg) := inb_of S93 ⟨by decide, by decide⟩
  have hat93 : cl93.slots[((0 : Int32)).toNatClampNeg]? = some (.double dd) := Has.at H93 hin93 rfl
  have K94 : ∀ t, Steps p.tables e below (T79.setTop (mkF m 182 #[.val (.ref a0), .val (.ref a1), .val (.ref b3), .val (.ref b66), .val (.int (1 : Int32)), .val (.ref u1), .val (.ref k1), .val (.double r0), .second, .val (.int (1 : Int32))] [(.double (FP.ddiv r0 dd)), (.int (0 : Int32)), (.ref b66)])) t → Steps p.tables e below G0 t := by
    intro t kt
    refine K91 t ?_
    refine X79.daload hx (j := (0 : Int32)) (v := (.double dd)) (by rw [e79]; exact (Ar93).1) (State.isArrayOf_alike hZ.alike (Ar93).2.1) (Ar93).2.2 hin93 hat93 (g := (mkF m 180 #[.val (.ref a0), .val (.ref a1), .val (.ref b3), .val (.ref b66), .val (.int (1 : Int32)), .val (.ref u1), .val (.ref k1), .val (.double r0), .second, .val (.int (1 : Int32))] [(.int (0 : Int32)), (.ref k1), (.double r0), (.int (0 : Int32)), (.ref b66)])) rfl rfl (hb hby d6_180) _ ?_
    show Steps p.tables e below (T79.setTop (mkF m 181 #[.val (.ref a0), .val (.ref a1), .val (.ref b3), .val (.ref b66), .val (.int (1 : Int32)), .val (.ref u1), .val (.ref k1), .val (.double r0), .second, .val (.int (1 : Int32))] [(.double dd), (.double r0), (.int (0 : Int32)), (.ref b66)])) _
    refine XS.ddivS X79.here hx rfl (hb hby d6_181) rfl hn1 rfl ?_
    show Steps p.tables e below (T79.setTop (mkF m 182 #[.val (.ref a0), .val (.ref a1), .val (.ref b3), .val (.ref b66), .val (.int (1 : Int32)), .val (.ref u1), .val (.ref k1), .val (.double r0), .second, .val (.int (1 : Int32))] [(.double (FP.ddiv r0 dd)), (.int (0 : Int32)), (.ref b66)])) _
    exact kt
  obtain ⟨cl95, Ar95, qq95, S95, M95, H95, GG95⟩ := id VL66
  have hin95 : ¬ ((0 : Int32) < 0 ∨ cl95.slots.size ≤ ((0 : Int32)).toNatClampNeg) := inb_of S95 ⟨by decide, by decide⟩
  obtain ⟨T96, h96, X96, e96, W96, st96⟩ := stD X79 hx hZ e79 Ar95 (j := (0 : Int32)) hin95 (g := (mkF m 182 #[.val (.ref a0), .val (.ref a1), .val (.ref b3), .val (.ref b66), .val (.int (1 : Int32)), .val (.ref u1), .val (.ref k1), .val (.double r0), .second, .val (.int (1 : Int32))] [(.double (FP.ddiv r0 dd)), (.int (0 : Int32)), (.ref b66)])) rfl rfl (hb hby d6_182)
  have K96 : ∀ t, Steps p.tables e below (T96.setTop (mkF m 183 #[.val (.ref a0), .val (.ref a1), .val (.ref b3), .val (.ref b66), .val (.int (1 : Int32)), .val (.ref u1), .val (.ref k1), .val (.double r0), .second, .val (.int (1 : Int32))] [])) t → Steps p.tables e below G0 t := fun t kt => K94 t (st96 _ kt)
  have Z96 : n0 ≤ h96.size := Nat.le_trans Z66 (Keep.of_wr W96).1
  have VL96 : Arv Z h96 b66 k66 .double (2 : Int32) [(.double (FP.ddiv r0 dd)), (.double 0)] (.double 0) := Arv.set Ar95 qq95 S95 M95 H95 GG95 rfl W96 0 rfl (Nat.le_of_ble_eq_true rfl)
  have N96 := Fr.snoc X96 N46 gn66
  have K97 : ∀ t, Steps p.tables e below (T96.setTop (mkF m 186 #[.val (.ref a0), .val (.ref a1), .val (.ref b3), .val (.ref b66), .val (.int ((1 : Int32) + (-1 : Int32))), .val (.ref u1), .val (.ref k1), .val (.double r0), .second, .val (.int (1 : Int32))] [])) t → Steps p.tables e below G0 t := by
    intro t kt
    refine K96 t ?_
    refine XS.iinc X96.here hx rfl (hb hby d6_183) rfl (l' := #[.val (.ref a0), .val (.ref a1), .val (.ref b3), .val (.ref b66), .val (.int ((1 : Int32) + (-1 : Int32))), .val (.ref u1), .val (.ref k1), .val (.double r0), .second, .val (.int (1 : Int32))]) rfl ?_
    show Steps p.tables e below (T96.setTop (mkF m 186 #[.val (.ref a0), .val (.ref a1), .val (.ref b3), .val (.ref b66), .val (.int ((1 : Int32) + (-1 : Int32))), .val (.ref u1), .val (.ref k1), .val (.double r0), .second, .val (.int (1 : Int32))] [])) _
    exact kt
  rw [show ((1 : Int32) + (-1 : Int32)) = (0 : Int32) from by decide] at K97
  have K98 : ∀ t, Steps p.tables e below (T96.setTop (mkF m 112 #[.val (.ref a0), .val (.ref a1), .val (.ref b3), .val (.ref b66), .val (.int (0 : Int32)), .val (.ref u1), .val (.ref k1), .val (.double r0), .second, .val (.int (1 : Int32))] [(.ref a0)])) t → Steps p.tables e below G0 t := by
    intro t kt
    refine K97 t ?_
    refine XS.goto X96.here hx rfl (pc0 := 186) (pc' := 106) rfl (hb hby d6_186) (by decide) (by decide) ?_
    show Steps p.tables e below (T96.setTop (mkF m 106 #[.val (.ref a0), .val (.ref a1), .val (.ref b3), .val (.ref b66), .val (.int (0 : Int32)), .val (.ref u1), .val (.ref k1), .val (.double r0), .second, .val (.int (1 : Int32))] [])) _
    refine XS.iload X96.here hx rfl (hb hby d6_106) rfl ?_
    show Steps p.tables e below (T96.setTop (mkF m 108 #[.val (.ref a0), .val (.ref a1), .val (.ref b3), .val (.ref b66), .val (.int (0 : Int32)), .val (.ref u1), .val (.ref k1), .val (.double r0), .second, .val (.int (1 : Int32))] [(.int (0 : Int32))])) _
    refine XS.ifNo X96.here hx rfl (hb hby d6_108) rfl ((if0 _ _).trans (flt (by decide)).1) ?_
    show Steps p.tables e below (T96.setTop (mkF m 111 #[.val (.ref a0), .val (.ref a1), .val (.ref b3), .val (.ref b66), .val (.int (0 : Int32)), .val (.ref u1), .val (.ref k1), .val (.double r0), .second, .val (.int (1 : Int32))] [])) _
    refine XS.aloadN X96.here hx rfl (hb hby d6_111) rfl rfl ?_
    show Steps p.tables e below (T96.setTop (mkF m 112 #[.val (.ref a0), .val (.ref a1), .val (.ref b3), .val (.ref b66), .val (.int (0 : Int32)), .val (.ref u1), .val (.ref k1), .val (.double r0), .second, .val (.int (1 : Int32))] [(.ref a0)])) _
    exact kt
  have f99 := (f72.other W96 (Or.inl ne_a0_b66))
  obtain ⟨T100, X100, e100, st100⟩ := getF X96 hx hZ hown (host := "") (Or.inl (hw _ (List.mem_of_getElem? (i := 31) rfl))) Via.refl e96 f99 (g := (mkF m 112 #[.val (.ref a0), .val (.ref a1), .val (.ref b3), .val (.ref b66), .val (.int (0 : Int32)), .val (.ref u1), .val (.ref k1), .val (.double r0), .second, .val (.int (1 : Int32))] [(.ref a0)])) rfl rfl (hb hby d6_112)
  have K100 : ∀ t, Steps p.tables e below (T100.setTop (mkF m 115 #[.val (.ref a0), .val (.ref a1), .val (.ref b3), .val (.ref b66), .val (.int (0 : Int32)), .val (.ref u1), .val (.ref k1), .val (.double r0), .second, .val (.int (1 : Int32))] [(.ref pu)])) t → Steps p.tables e below G0 t := fun t kt => K98 t (st100 _ kt)
  have K101 : ∀ t, Steps p.tables e below (T100.setTop (mkF m 117 #[.val (.ref a0), .val (.ref a1), .val (.ref b3), .val (.ref b66), .val (.int (0 : Int32)), .val (.ref u1), .val (.ref k1), .val (.double r0), .second, .val (.int (1 : Int32))] [(.int (0 : Int32)), (.ref pu)])) t → Steps p.tables e below G0 t := by
    intro t kt
    refine K100 t ?_
    refine XS.iload X100.here hx rfl (hb hby d6_115) rfl ?_
    show Steps p.tables e below (T100.setTop (mkF m 117 #[.val (.ref a0), .val (.ref a1), .val (.ref b3), .val (.ref b66), .val (.int (0 : Int32)), .val (.ref u1), .val (.ref k1), .val (.double r0), .second, .val (.int (1 : Int32))] [(.int (0 : Int32)), (.ref pu)])) _
    exact kt
  have f102 := (f75.other W96 ne_pu_b66)
  obtain ⟨cl103, Ar103, qq103, S103, M103, H103, GG103⟩ := id f102
  have hin103 : ¬ ((0 : Int32) < 0 ∨ cl103.slots.size ≤ ((0 : Int32)).toNatClampNeg) := inb_of S103 ⟨by decide, by decide⟩
  have hat103 : cl103.slots[((0 : Int32)).toNatClampNeg]? = some (.ref u0) := Has.at H103 hin103 rfl
  have K104 : ∀ t, Steps p.tables e below (T100.setTop (mkF m 121 #[.val (.ref a0), .val (.ref a1), .val (.ref b3), .val (.ref b66), .val (.int (0 : Int32)), .val (.ref u0), .val (.ref k1), .val (.double r0), .second, .val (.int (1 : Int32))] [(.ref a0)])) t → Steps p.tables e below G0 t := by
    intro t kt
    refine K101 t ?_
    refine X100.aaload hx (j := (0 : Int32)) (v := (.ref u0)) (by rw [e100]; exact (Ar103).1) (State.isArrayOf_alike hZ.alike (Ar103).2.1) rfl (Ar103).2.2 hin103 hat103 (g := (mkF m 117 #[.val (.ref a0), .val (.ref a1), .val (.ref b3), .val (.ref b66), .val (.int (0 : Int32)), .val (.ref u1), .val (.ref k1), .val (.double r0), .second, .val (.int (1 : Int32))] [(.int (0 : Int32)), (.ref pu)])) rfl rfl (hb hby d6_117) _ ?_
    show Steps p.tables e below (T100.setTop (mkF m 118 #[.val (.ref a0), .val (.ref a1), .val (.ref b3), .val (.ref b66), .val (.int (0 : Int32)), .val (.ref u1), .val (.ref k1), .val (.double r0), .second, .val (.int (1 : Int32))] [(.ref u0)])) _
    refine XS.astore X100.here hx rfl (hb hby d6_118) rfl rfl (l' := #[.val (.ref a0), .val (.ref a1), .val (.ref b3), .val (.ref b66), .val (.int (0 : Int32)), .val (.ref u0), .val (.ref k1), .val (.double r0), .second, .val (.int (1 : Int32))]) rfl ?_
    show Steps p.tables e below (T100.setTop (mkF m 120 #[.val (.ref a0), .val (.ref a1), .val (.ref b3), .val (.ref b66), .val (.int (0 : Int32)), .val (.ref u0), .val (.ref k1), .val (.double r0), .second, .val (.int (1 : Int32))] [])) _
    refine XS.aloadN X100.here hx rfl (hb hby d6_120) rfl rfl ?_
    show Steps p.tables e below (T100.setTop (mkF m 121 #[.val (.ref a0), .val (.ref a1), .val (.ref b3), .val (.ref b66), .val (.int (0 : Int32)), .val (.ref u0), .val (.ref k1), .val (.double r0), .second, .val (.int (1 : Int32))] [(.ref a0)])) _
    exact kt
  have f105 := (f78.other W96 (Or.inl ne_a0_b66))
  obtain ⟨T106, X106, e106, st106⟩ := getF X100 hx hZ hown (host := "") (Or.inl (hw _ (List.mem_of_getElem? (i := 33) rfl))) Via.refl e100 f105 (g := (mkF m 121 #[.val (.ref a0), .val (.ref a1), .val (.ref b3), .val (.ref b66), .val (.int (0 : Int32)), .val (.ref u0), .val (.ref k1), .val (.double r0), .second, .val (.int (1 : Int32))] [(.ref a0)])) rfl rfl (hb hby d6_121)
  have K106 : ∀ t, Steps p.tables e below (T106.setTop (mkF m 124 #[.val (.ref a0), .val (.ref a1), .val (.ref b3), .val (.ref b66), .val (.int (0 : Int32)), .val (.ref u0), .val (.ref k1), .val (.double r0), .second, .val (.int (1 : Int32))] [(.ref pc)])) t → Steps p.tables e below G0 t := fun t kt => K104 t (st106 _ kt)
  have K107 : ∀ t, Steps p.tables e below (T106.setTop (mkF m 126 #[.val (.ref a0), .val (.ref a1), .val (.ref b3), .val (.ref b66), .val (.int (0 : Int32)), .val (.ref u0), .val (.ref k1), .val (.double r0), .second, .val (.int (1 : Int32))] [(.int (0 : Int32)), (.ref pc)])) t → Steps p.tables e below G0 t := by
    intro t kt
    refine K106 t ?_
    refine XS.iload X106.here hx rfl (hb hby d6_124) rfl ?_
    show Steps p.tables e below (T106.setTop (mkF m 126 #[.val (.ref a0), .val (.ref a1), .val (.ref b3), .val (.ref b66), .val (.int (0 : Int32)), .val (.ref u0), .val (.ref k1), .val (.double r0), .second, .val (.int (1 : Int32))] [(.int (0 : Int32)), (.ref pc)])) _
    exact kt
  have f108 := (f81.other W96 ne_pc_b66)
  obtain ⟨cl109, Ar109, qq109, S109, M109, H109, GG109⟩ := id f108
  have hin109 : ¬ ((0 : Int32) < 0 ∨ cl109.slots.size ≤ ((0 : Int32)).toNatClampNeg) := inb_of S109 ⟨by decide, by decide⟩
  have hat109 : cl109.slots[((0 : Int32)).toNatClampNeg]? = some (.ref k0) := Has.at H109 hin109 rfl
  have K110 : ∀ t, Steps p.tables e below (T106.setTop (mkF m 132 #[.val (.ref a0), .val (.ref a1), .val (.ref b3), .val (.ref b66), .val (.int (0 : Int32)), .val (.ref u0), .val (.ref k0), .val (.double r0), .second, .val (.int (1 : Int32))] [(.int (0 : Int32)), (.ref b3)])) t → Steps p.tables e below G0 t := by
    intro t kt
    refine K107 t ?_
    refine X106.aaload hx (j := (0 : Int32)) (v := (.ref k0)) (by rw [e106]; exact (Ar109).1) (State.isArrayOf_alike hZ.alike (Ar109).2.1) rfl (Ar109).2.2 hin109 hat109 (g := (mkF m 126 #[.val (.ref a0), .val (.ref a1), .val (.ref b3), .val (.ref b66), .val (.int (0 : Int32)), .val (.ref u0), .val (.ref k1), .val (.double r0), .second, .val (.int (1 : Int32))] [(.int (0 : Int32)), (.ref pc)])) rfl rfl (hb hby d6_126) _ ?_
    show Steps p.tables e below (T106.setTop (mkF m 127 #[.val (.ref a0), .val (.ref a1), .val (.ref b3), .val (.ref b66), .val (.int (0 : Int32)), .val (.ref u0), .val (.ref k1), .val (.double r0), .second, .val (.int (1 : Int32))] [(.ref k0)])) _
    refine XS.astore X106.here hx rfl (hb hby d6_127) rfl rfl (l' := #[.val (.ref a0), .val (.ref a1), .val (.ref b3), .val (.ref b66), .val (.int (0 : Int32)), .val (.ref u0), .val (.ref k0), .val (.double r0), .second, .val (.int (1 : Int32))]) rfl ?_
    show Steps p.tables e below (T106.setTop (mkF m 129 #[.val (.ref a0), .val (.ref a1), .val (.ref b3), .val (.ref b66), .val (.int (0 : Int32)), .val (.ref u0), .val (.ref k0), .val (.double r0), .second, .val (.int (1 : Int32))] [])) _
    refine XS.aloadN X106.here hx rfl (hb hby d6_129) rfl rfl ?_
    show Steps p.tables e below (T106.setTop (mkF m 130 #[.val (.ref a0), .val (.ref a1), .val (.ref b3), .val (.ref b66), .val (.int (0 : Int32)), .val (.ref u0), .val (.ref k0), .val (.double r0), .second, .val (.int (1 : Int32))] [(.ref b3)])) _
    refine XS.iload X106.here hx rfl (hb hby d6_130) rfl ?_
    show Steps p.tables e below (T106.setTop (mkF m 132 #[.val (.ref a0), .val (.ref a1), .val (.ref b3), .val (.ref b66), .val (.int (0 : Int32)), .val (.ref u0), .val (.ref k0), .val (.double r0), .second, .val (.int (1 : Int32))] [(.int (0 : Int32)), (.ref b3)])) _
    exact kt
  have f111 := (f84.other W96 ne_b3_b66)
  obtain ⟨cl112, Ar112, qq112, S112, M112, H112, GG112⟩ := id f111
  have hin112 : ¬ ((0 : Int32) < 0 ∨ cl112.slots.size ≤ ((0 : Int32)).toNatClampNeg) := inb_of S112 ⟨by decide, by decide⟩
  have hat112 : cl112.slots[((0 : Int32)).toNatClampNeg]? = some (.double r1) := Has.at H112 hin112 rfl
  have K113 : ∀ t, Steps p.tables e below (T106.setTop (mkF m 142 #[.val (.ref a0), .val (.ref a1), .val (.ref b3), .val (.ref b66), .val (.int (0 : Int32)), .val (.ref u0), .val (.ref k0), .val (.double r1), .second, .val (.int (1 : Int32))] [(.ref u0), (.int (1 : Int32))])) t → Steps p.tables e below G0 t := by
    intro t kt
    refine K110 t ?_
    refine X106.daload hx (j := (0 : Int32)) (v := (.double r1)) (by rw [e106]; exact (Ar112).1) (State.isArrayOf_alike hZ.alike (Ar112).2.1) (Ar112).2.2 hin112 hat112 (g := (mkF m 132 #[.val (.ref a0), .val (.ref a1), .val (.ref b3), .val (.ref b66), .val (.int (0 : Int32)), .val (.ref u0), .val (.ref k0), .val (.double r0), .second, .val (.int (1 : Int32))] [(.int (0 : Int32)), (.ref b3)])) rfl rfl (hb hby d6_132) _ ?_
    show Steps p.tables e below (T106.setTop (mkF m 133 #[.val (.ref a0), .val (.ref a1), .val (.ref b3), .val (.ref b66), .val (.int (0 : Int32)), .val (.ref u0), .val (.ref k0), .val (.double r0), .second, .val (.int (1 : Int32))] [(.double r1)])) _
    refine XS.dstore X106.here hx rfl (hb hby d6_133) rfl (l' := #[.val (.ref a0), .val (.ref a1), .val (.ref b3), .val (.ref b66), .val (.int (0 : Int32)), .val (.ref u0), .val (.ref k0), .val (.double r1), .second, .val (.int (1 : Int32))]) rfl ?_
    show Steps p.tables e below (T106.setTop (mkF m 135 #[.val (.ref a0), .val (.ref a1), .val (.ref b3), .val (.ref b66), .val (.int (0 : Int32)), .val (.ref u0), .val (.ref k0), .val (.double r1), .second, .val (.int (1 : Int32))] [])) _
    refine XS.iconst X106.here hx rfl (hb hby d6_135) ?_
    show Steps p.tables e below (T106.setTop (mkF m 136 #[.val (.ref a0), .val (.ref a1), .val (.ref b3), .val (.ref b66), .val (.int (0 : Int32)), .val (.ref u0), .val (.ref k0), .val (.double r1), .second, .val (.int (1 : Int32))] [(.int (1 : Int32))])) _
    refine XS.istore X106.here hx rfl (hb hby d6_136) rfl (l' := #[.val (.ref a0), .val (.ref a1), .val (.ref b3), .val (.ref b66), .val (.int (0 : Int32)), .val (.ref u0), .val (.ref k0), .val (.double r1), .second, .val (.int (1 : Int32))]) rfl ?_
    show Steps p.tables e below (T106.setTop (mkF m 138 #[.val (.ref a0), .val (.ref a1), .val (.ref b3), .val (.ref b66), .val (.int (0 : Int32)), .val (.ref u0), .val (.ref k0), .val (.double r1), .second, .val (.int (1 : Int32))] [])) _
    refine XS.iload X106.here hx rfl (hb hby d6_138) rfl ?_
    show Steps p.tables e below (T106.setTop (mkF m 140 #[.val (.ref a0), .val (.ref a1), .val (.ref b3), .val (.ref b66), .val (.int (0 : Int32)), .val (.ref u0), .val (.ref k0), .val (.double r1), .second, .val (.int (1 : Int32))] [(.int (1 : Int32))])) _
    refine XS.aload X106.here hx rfl (hb hby d6_140) rfl rfl ?_
    show Steps p.tables e below (T106.setTop (mkF m 142 #[.val (.ref a0), .val (.ref a1), .val (.ref b3), .val (.ref b66), .val (.int (0 : Int32)), .val (.ref u0), .val (.ref k0), .val (.double r1), .second, .val (.int (1 : Int32))] [(.ref u0), (.int (1 : Int32))])) _
    exact kt
  have f114 := ((f62.ext E66).other W96 ne_u0_b66)
  obtain ⟨cl115, Ar115, qq115, S115, M115, H115, GG115⟩ := id f114
  have K116 : ∀ t, Steps p.tables e below (T106.setTop (mkF m 152 #[.val (.ref a0), .val (.ref a1), .val (.ref b3), .val (.ref b66), .val (.int (0 : Int32)), .val (.ref u0), .val (.ref k0), .val (.double r1), .second, .val (.int (1 : Int32))] [(.int (1 : Int32)), (.ref k0), (.double r1)])) t → Steps p.tables e below G0 t := by
    intro t kt
    refine K113 t ?_
    refine X106.arraylength hx (by rw [e106]; exact (Ar115).1) (State.isArrayOf_alike hZ.alike (Ar115).2.1) (g := (mkF m 142 #[.val (.ref a0), .val (.ref a1), .val (.ref b3), .val (.ref b66), .val (.int (0 : Int32)), .val (.ref u0), .val (.ref k0), .val (.double r1), .second, .val (.int (1 : Int32))] [(.ref u0), (.int (1 : Int32))])) rfl rfl (hb hby d6_142) _ ?_
    rw [len_of S115 M115]
    show Steps p.tables e below (T106.setTop (mkF m 143 #[.val (.ref a0), .val (.ref a1), .val (.ref b3), .val (.ref b66), .val (.int (0 : Int32)), .val (.ref u0), .val (.ref k0), .val (.double r1), .second, .val (.int (1 : Int32))] [(.int (2 : Int32)), (.int (1 : Int32))])) _
    refine XS.icmpNo X106.here hx rfl (hb hby d6_143) rfl (tlt (by decide)).2.1 ?_
    show Steps p.tables e below (T106.setTop (mkF m 146 #[.val (.ref a0), .val (.ref a1), .val (.ref b3), .val (.ref b66), .val (.int (0 : Int32)), .val (.ref u0), .val (.ref k0), .val (.double r1), .second, .val (.int (1 : Int32))] [])) _
    refine XS.dload X106.here hx rfl (hb hby d6_146) rfl ?_
    show Steps p.tables e below (T106.setTop (mkF m 148 #[.val (.ref a0), .val (.ref a1), .val (.ref b3), .val (.ref b66), .val (.int (0 : Int32)), .val (.ref u0), .val (.ref k0), .val (.double r1), .second, .val (.int (1 : Int32))] [(.double r1)])) _
    refine XS.aload X106.here hx rfl (hb hby d6_148) rfl rfl ?_
    show Steps p.tables e below (T106.setTop (mkF m 150 #[.val (.ref a0), .val (.ref a1), .val (.ref b3), .val (.ref b66), .val (.int (0 : Int32)), .val (.ref u0), .val (.ref k0), .val (.double r1), .second, .val (.int (1 : Int32))] [(.ref k0), (.double r1)])) _
    refine XS.iload X106.here hx rfl (hb hby d6_150) rfl ?_
    show Steps p.tables e below (T106.setTop (mkF m 152 #[.val (.ref a0), .val (.ref a1), .val (.ref b3), .val (.ref b66), .val (.int (0 : Int32)), .val (.ref u0), .val (.ref k0), .val (.double r1), .second, .val (.int (1 : Int32))] [(.int (1 : Int32)), (.ref k0), (.double r1)])) _
    exact kt
  have f117 := ((f64.ext E66).other W96 ne_k0_b66)
  obtain ⟨cl118, Ar118, qq118, S118, M118, H118, GG118⟩ := id f117
  have hin118 : ¬ ((1 : Int32) < 0 ∨ cl118.slots.size ≤ ((1 : Int32)).toNatClampNeg) := inb_of S118 ⟨by decide, by decide⟩
  have hat118 : cl118.slots[((1 : Int32)).toNatClampNeg]? = some (.double c01) := Has.at H118 hin118 rfl
  have K119 : ∀ t, Steps p.tables e below (T106.setTop (mkF m 158 #[.val (.ref a0), .val (.ref a1), .val (.ref b3), .val (.ref b66), .val (.int (0 : Int32)), .val (.ref u0), .val (.ref k0), .val (.double r1), .second, .val (.int (1 : Int32))] [(.int (1 : Int32)), (.ref u0), (.ref b66), (.double c01), (.double r1)])) t → Steps p.tables e below G0 t := by
    intro t kt
    refine K116 t ?_
    refine X106.daload hx (j := (1 : Int32)) (v := (.double c01)) (by rw [e106]; exact (Ar118).1) (State.isArrayOf_alike hZ.alike (Ar118).2.1) (Ar118).2.2 hin118 hat118 (g := (mkF m 152 #[.val (.ref a0), .val (.ref a1), .val (.ref b3), .val (.ref b66), .val (.int (0 : Int32)), .val (.ref u0), .val (.ref k0), .val (.double r1), .second, .val (.int (1 : Int32))] [(.int (1 : Int32)), (.ref k0), (.double r1)])) rfl rfl (hb hby d6_152) _ ?_
    show Steps p.tables e below (T106.setTop (mkF m 153 #[.val (.ref a0), .val (.ref a1), .val (.ref b3), .val (.ref b66), .val (.int (0 : Int32)), .val (.ref u0), .val (.ref k0), .val (.double r1), .second, .val (.int (1 : Int32))] [(.double c01), (.double r1)])) _
    refine XS.aloadN X106.here hx rfl (hb hby d6_153) rfl rfl ?_
    show Steps p.tables e below (T106.setTop (mkF m 154 #[.val (.ref a0), .val (.ref a1), .val (.ref b3), .val (.ref b66), .val (.int (0 : Int32)), .val (.ref u0), .val (.ref k0), .val (.double r1), .second, .val (.int (1 : Int32))] [(.ref b66), (.double c01), (.double r1)])) _
    refine XS.aload X106.here hx rfl (hb hby d6_154) rfl rfl ?_
    show Steps p.tables e below (T106.setTop (mkF m 156 #[.val (.ref a0), .val (.ref a1), .val (.ref b3), .val (.ref b66), .val (.int (0 : Int32)), .val (.ref u0), .val (.ref k0), .val (.double r1), .second, .val (.int (1 : Int32))] [(.ref u0), (.ref b66), (.double c01), (.double r1)])) _
    refine XS.iload X106.here hx rfl (hb hby d6_156) rfl ?_
    show Steps p.tables e below (T106.setTop (mkF m 158 #[.val (.ref a0), .val (.ref a1), .val (.ref b3), .val (.ref b66), .val (.int (0 : Int32)), .val (.ref u0), .val (.ref k0), .val (.double r1), .second, .val (.int (1 : Int32))] [(.int (1 : Int32)), (.ref u0), (.ref b66), (.double c01), (.double r1)])) _
    exact kt
  obtain ⟨cl120, Ar120, qq120, S120, M120, H120, GG120⟩ := id f114
  have hin120 : ¬ ((1 : Int32) < 0 ∨ cl120.slots.size ≤ ((1 : Int32)).toNatClampNeg) := inb_of S120 ⟨by decide, by decide⟩
  have hat120 : cl120.slots[((1 : Int32)).toNatClampNeg]? = some (.int (0 : Int32)) := Has.at H120 hin120 rfl
  have K121 : ∀ t, Steps p.tables e below (T106.setTop (mkF m 159 #[.val (.ref a0), .val (.ref a1), .val (.ref b3), .val (.ref b66), .val (.int (0 : Int32)), .val (.ref u0), .val (.ref k0), .val (.double r1), .second, .val (.int (1 : Int32))] [(.int (0 : Int32)), (.ref b66), (.double c01), (.double r1)])) t → Steps p.tables e below G0 t := by
    intro t kt
    refine K119 t ?_
    refine X106.iaload hx (j := (1 : Int32)) (v := (.int (0 : Int32))) (by rw [e106]; exact (Ar120).1) (State.isArrayOf_alike hZ.alike (Ar120).2.1) (Ar120).2.2 hin120 hat120 (g := (mkF m 158 #[.val (.ref a0), .val (.ref a1), .val (.ref b3), .val (.ref b66), .val (.int (0 : Int32)), .val (.ref u0), .val (.ref k0), .val (.double r1), .second, .val (.int (1 : Int32))] [(.int (1 : Int32)), (.ref u0), (.ref b66), (.double c01), (.double r1)])) rfl rfl (hb hby d6_158) _ ?_
    show Steps p.tables e below (T106.setTop (mkF m 159 #[.val (.ref a0), .val (.ref a1), .val (.ref b3), .val (.ref b66), .val (.int (0 : Int32)), .val (.ref u0), .val (.ref k0), .val (.double r1), .second, .val (.int (1 : Int32))] [(.int (0 : Int32)), (.ref b66), (.double c01), (.double r1)])) _
    exact kt
  obtain ⟨cl122, Ar122, qq122, S122, M122, H122, GG122⟩ := id VL96
  have hin122 : ¬ ((0 : Int32) < 0 ∨ cl122.slots.size ≤ ((0 : Int32)).toNatClampNeg) := inb_of S122 ⟨by decide, by decide⟩
  have hat122 : cl122.slots[((0 : Int32)).toNatClampNeg]? = some (.double (FP.ddiv r0 dd)) := Has.at H122 hin122 rfl
  have K123 : ∀ t, Steps p.tables e below (T106.setTop (mkF m 167 #[.val (.ref a0), .val (.ref a1), .val (.ref b3), .val (.ref b66), .val (.int (0 : Int32)), .val (.ref u0), .val (.ref k0), .val (.double (FP.dsub r1 (FP.dmul c01 (FP.ddiv r0 dd)))), .second, .val (.int ((1 : Int32) + (1 : Int32)))] [])) t → Steps p.tables e below G0 t := by
    intro t kt
    refine K121 t ?_
    refine X106.daload hx (j := (0 : Int32)) (v := (.double (FP.ddiv r0 dd))) (by rw [e106]; exact (Ar122).1) (State.isArrayOf_alike hZ.alike (Ar122).2.1) (Ar122).2.2 hin122 hat122 (g := (mkF m 159 #[.val (.ref a0), .val (.ref a1), .val (.ref b3), .val (.ref b66), .val (.int (0 : Int32)), .val (.ref u0), .val (.ref k0), .val (.double r1), .second, .val (.int (1 : Int32))] [(.int (0 : Int32)), (.ref b66), (.double c01), (.double r1)])) rfl rfl (hb hby d6_159) _ ?_
    show Steps p.tables e below (T106.setTop (mkF m 160 #[.val (.ref a0), .val (.ref a1), .val (.ref b3), .val (.ref b66), .val (.int (0 : Int32)), .val (.ref u0), .val (.ref k0), .val (.double r1), .second, .val (.int (1 : Int32))] [(.double (FP.ddiv r0 dd)), (.double c01), (.double r1)])) _
    refine XS.dmulS X106.here hx rfl (hb hby d6_160) rfl hn2 rfl ?_
    show Steps p.tables e below (T106.setTop (mkF m 161 #[.val (.ref a0), .val (.ref a1), .val (.ref b3), .val (.ref b66), .val (.int (0 : Int32)), .val (.ref u0), .val (.ref k0), .val (.double r1), .second, .val (.int (1 : Int32))] [(.double (FP.dmul c01 (FP.ddiv r0 dd))), (.double r1)])) _
    refine XS.dsubS X106.here hx rfl (hb hby d6_161) rfl hn3 rfl ?_
    show Steps p.tables e below (T106.setTop (mkF m 162 #[.val (.ref a0), .val (.ref a1), .val (.ref b3), .val (.ref b66), .val (.int (0 : Int32)), .val (.ref u0), .val (.ref k0), .val (.double r1), .second, .val (.int (1 : Int32))] [(.double (FP.dsub r1 (FP.dmul c01 (FP.ddiv r0 dd))))])) _
    refine XS.dstore X106.here hx rfl (hb hby d6_162) rfl (l' := #[.val (.ref a0), .val (.ref a1), .val (.ref b3), .val (.ref b66), .val (.int (0 : Int32)), .val (.ref u0), .val (.ref k0), .val (.double (FP.dsub r1 (FP.dmul c01 (FP.ddiv r0 dd)))), .second, .val (.int (1 : Int32))]) rfl ?_
    show Steps p.tables e below (T106.setTop (mkF m 164 #[.val (.ref a0), .val (.ref a1), .val (.ref b3), .val (.ref b66), .val (.int (0 : Int32)), .val (.ref u0), .val (.ref k0), .val (.double (FP.dsub r1 (FP.dmul c01 (FP.ddiv r0 dd)))), .second, .val (.int (1 : Int32))] [])) _
    refine XS.iinc X106.here hx rfl (hb hby d6_164) rfl (l' := #[.val (.ref a0), .val (.ref a1), .val (.ref b3), .val (.ref b66), .val (.int (0 : Int32)), .val (.ref u0), .val (.ref k0), .val (.double (FP.dsub r1 (FP.dmul c01 (FP.ddiv r0 dd)))), .second, .val (.int ((1 : Int32) + (1 : Int32)))]) rfl ?_
    show Steps p.tables e below (T106.setTop (mkF m 167 #[.val (.ref a0), .val (.ref a1), .val (.ref b3), .val (.ref b66), .val (.int (0 : Int32)), .val (.ref u0), .val (.ref k0), .val (.double (FP.dsub r1 (FP.dmul c01 (FP.ddiv r0 dd)))), .second, .val (.int ((1 : Int32) + (1 : Int32)))] [])) _
    exact kt
  rw [show ((1 : Int32) + (1 : Int32)) = (2 : Int32) from by decide] at K123
  have K124 : ∀ t, Steps p.tables e below (T106.setTop (mkF m 142 #[.val (.ref a0), .val (.ref a1), .val (.ref b3), .val (.ref b66), .val (.int (0 : Int32)), .val (.ref u0), .val (.ref k0), .val (.double (FP.dsub r1 (FP.dmul c01 (FP.ddiv r0 dd)))), .second, .val (.int (2 : Int32))] [(.ref u0), (.int (2 : Int32))])) t → Steps p.tables e below G0 t := by
    intro t kt
    refine K123 t ?_
    refine XS.goto X106.here hx rfl (pc0 := 167) (pc' := 138) rfl (hb hby d6_167) (by decide) (by decide) ?_
    show Steps p.tables e below (T106.setTop (mkF m 138 #[.val (.ref a0), .val (.ref a1), .val (.ref b3), .val (.ref b66), .val (.int (0 : Int32)), .val (.ref u0), .val (.ref k0), .val (.double (FP.dsub r1 (FP.dmul c01 (FP.ddiv r0 dd)))), .second, .val (.int (2 : Int32))] [])) _
    refine XS.iload X106.here hx rfl (hb hby d6_138) rfl ?_
    show Steps p.tables e below (T106.setTop (mkF m 140 #[.val (.ref a0), .val (.ref a1), .val (.ref b3), .val (.ref b66), .val (.int (0 : Int32)), .val (.ref u0), .val (.ref k0), .val (.double (FP.dsub r1 (FP.dmul c01 (FP.ddiv r0 dd)))), .second, .val (.int (2 : Int32))] [(.int (2 : Int32))])) _
    refine XS.aload X106.here hx rfl (hb hby d6_140) rfl rfl ?_
    show Steps p.tables e below (T106.setTop (mkF m 142 #[.val (.ref a0), .val (.ref a1), .val (.ref b3), .val (.ref b66), .val (.int (0 : Int32)), .val (.ref u0), .val (.ref k0), .val (.double (FP.dsub r1 (FP.dmul c01 (FP.ddiv r0 dd)))), .second, .val (.int (2 : Int32))] [(.ref u0), (.int (2 : Int32))])) _
    exact kt
  obtain ⟨cl125, Ar125, qq125, S125, M125, H125, GG125⟩ := id f114
  have K126 : ∀ t, Steps p.tables e below (T106.setTop (mkF m 174 #[.val (.ref a0), .val (.ref a1), .val (.ref b3), .val (.ref b66), .val (.int (0 : Int32)), .val (.ref u0), .val (.ref k0), .val (.double (FP.dsub r1 (FP.dmul c01 (FP.ddiv r0 dd)))), .second, .val (.int (2 : Int32))] [(.int (0 : Int32)), (.ref u0), (.ref b66)])) t → Steps p.tables e below G0 t := by
    intro t kt
    refine K124 t ?_
    refine X106.arraylength hx (by rw [e106]; exact (Ar125).1) (State.isArrayOf_alike hZ.alike (Ar125).2.1) (g := (mkF m 142 #[.val (.ref a0), .val (.ref a1), .val (.ref b3), .val (.ref b66), .val (.int (0 : Int32)), .val (.ref u0), .val (.ref k0), .val (.double (FP.dsub r1 (FP.dmul c01 (FP.ddiv r0 dd)))), .second, .val (.int (2 : Int32))] [(.ref u0), (.int (2 : Int32))])) rfl rfl (hb hby d6_142) _ ?_
    rw [len_of S125 M125]
    show Steps p.tables e below (T106.setTop (mkF m 143 #[.val (.ref a0), .val (.ref a1), .val (.ref b3), .val (.ref b66), .val (.int (0 : Int32)), .val (.ref u0), .val (.ref k0), .val (.double (FP.dsub r1 (FP.dmul c01 (FP.ddiv r0 dd)))), .second, .val (.int (2 : Int32))] [(.int (2 : Int32)), (.int (2 : Int32))])) _
    refine XS.icmpYes X106.here hx rfl (pc0 := 143) (pc' := 170) rfl (hb hby d6_143) rfl (flt (by decide)).2.1 (by decide) (by decide) ?_
    show Steps p.tables e below (T106.setTop (mkF m 170 #[.val (.ref a0), .val (.ref a1), .val (.ref b3), .val (.ref b66), .val (.int (0 : Int32)), .val (.ref u0), .val (.ref k0), .val (.double (FP.dsub r1 (FP.dmul c01 (FP.ddiv r0 dd)))), .second, .val (.int (2 : Int32))] [])) _
    refine XS.aloadN X106.here hx rfl (hb hby d6_170) rfl rfl ?_
    show Steps p.tables e below (T106.setTop (mkF m 171 #[.val (.ref a0), .val (.ref a1), .val (.ref b3), .val (.ref b66), .val (.int (0 : Int32)), .val (.ref u0), .val (.ref k0), .val (.double (FP.dsub r1 (FP.dmul c01 (FP.ddiv r0 dd)))), .second, .val (.int (2 : Int32))] [(.ref b66)])) _
    refine XS.aload X106.here hx rfl (hb hby d6_171) rfl rfl ?_
    show Steps p.tables e below (T106.setTop (mkF m 173 #[.val (.ref a0), .val (.ref a1), .val (.ref b3), .val (.ref b66), .val (.int (0 : Int32)), .val (.ref u0), .val (.ref k0), .val (.double (FP.dsub r1 (FP.dmul c01 (FP.ddiv r0 dd)))), .second, .val (.int (2 : Int32))] [(.ref u0), (.ref b66)])) _
    refine XS.iconst X106.here hx rfl (hb hby d6_173) ?_
    show Steps p.tables e below (T106.setTop (mkF m 174 #[.val (.ref a0), .val (.ref a1), .val (.ref b3), .val (.ref b66), .val (.int (0 : Int32)), .val (.ref u0), .val (.ref k0), .val (.double (FP.dsub r1 (FP.dmul c01 (FP.ddiv r0 dd)))), .second, .val (.int (2 : Int32))] [(.int (0 : Int32)), (.ref u0), (.ref b66)])) _
    exact kt
  obtain ⟨cl127, Ar127, qq127, S127, M127, H127, GG127⟩ := id f114
  have hin127 : ¬ ((0 : Int32) < 0 ∨ cl127.slots.size ≤ ((0 : Int32)).toNatClampNeg) := inb_of S127 ⟨by decide, by decide⟩
  have hat127 : cl127.slots[((0 : Int32)).toNatClampNeg]? = some (.int (1 : Int32)) := Has.at H127 hin127 rfl
  have K128 : ∀ t, Steps p.tables e below (T106.setTop (mkF m 180 #[.val (.ref a0), .val (.ref a1), .val (.ref b3), .val (.ref b66), .val (.int (0 : Int32)), .val (.ref u0), .val (.ref k0), .val (.double (FP.dsub r1 (FP.dmul c01 (FP.ddiv r0 dd)))), .second, .val (.int (2 : Int32))] [(.int (0 : Int32)), (.ref k0), (.double (FP.dsub r1 (FP.dmul c01 (FP.ddiv r0 dd)))), (.int (1 : Int32)), (.ref b66)])) t → Steps p.tables e below G0 t := by
    intro t kt
    refine K126 t ?_
    refine X106.iaload hx (j := (0 : Int32)) (v := (.int (1 : Int32))) (by rw [e106]; exact (Ar127).1) (State.isArrayOf_alike hZ.alike (Ar127).2.1) (Ar127).2.2 hin127 hat127 (g := (mkF m 174 #[.val (.ref a0), .val (.ref a1), .val (.ref b3), .val (.ref b66), .val (.int (0 : Int32)), .val (.ref u0), .val (.ref k0), .val (.double (FP.dsub r1 (FP.dmul c01 (FP.ddiv r0 dd)))), .second, .val (.int (2 : Int32))] [(.int (0 : Int32)), (.ref u0), (.ref b66)])) rfl rfl (hb hby d6_174) _ ?_
    show Steps p.tables e below (T106.setTop (mkF m 175 #[.val (.ref a0), .val (.ref a1), .val (.ref b3), .val (.ref b66), .val (.int (0 : Int32)), .val (.ref u0), .val (.ref k0), .val (.double (FP.dsub r1 (FP.dmul c01 (FP.ddiv r0 dd)))), .second, .val (.int (2 : Int32))] [(.int (1 : Int32)), (.ref b66)])) _
    refine XS.dload X106.here hx rfl (hb hby d6_175) rfl ?_
    show Steps p.tables e below (T106.setTop (mkF m 177 #[.val (.ref a0), .val (.ref a1), .val (.ref b3), .val (.ref b66), .val (.int (0 : Int32)), .val (.ref u0), .val (.ref k0), .val (.double (FP.dsub r1 (FP.dmul c01 (FP.ddiv r0 dd)))), .second, .val (.int (2 : Int32))] [(.double (FP.dsub r1 (FP.dmul c01 (FP.ddiv r0 dd)))), (.int (1 : Int32)), (.ref b66)])) _
    refine XS.aload X106.here hx rfl (hb hby d6_177) rfl rfl ?_
    show Steps p.tables e below (T106.setTop (mkF m 179 #[.val (.ref a0), .val (.ref a1), .val (.ref b3), .val (.ref b66), .val (.int (0 : Int32)), .val (.ref u0), .val (.ref k0), .val (.double (FP.dsub r1 (FP.dmul c01 (FP.ddiv r0 dd)))), .second, .val (.int (2 : Int32))] [(.ref k0), (.double (FP.dsub r1 (FP.dmul c01 (FP.ddiv r0 dd)))), (.int (1 : Int32)), (.ref b66)])) _
    refine XS.iconst X106.here hx rfl (hb hby d6_179) ?_
    show Steps p.tables e below (T106.setTop (mkF m 180 #[.val (.ref a0), .val (.ref a1), .val (.ref b3), .val (.ref b66), .val (.int (0 : Int32)), .val (.ref u0), .val (.ref k0), .val (.double (FP.dsub r1 (FP.dmul c01 (FP.ddiv r0 dd)))), .second, .val (.int (2 : Int32))] [(.int (0 : Int32)), (.ref k0), (.double (FP.dsub r1 (FP.dmul c01 (FP.ddiv r0 dd)))), (.int (1 : Int32)), (.ref b66)])) _
    exact kt
  obtain ⟨cl129, Ar129, qq129, S129, M129, H129, GG129⟩ := id f117
  have hin129 : ¬ ((0 : Int32) < 0 ∨ cl129.slots.size ≤ ((0 : Int32)).toNatClampNeg) := inb_of S129 ⟨by decide, by decide⟩
  have hat129 : cl129.slots[((0 : Int32)).toNatClampNeg]? = some (.double c00) := Has.at H129 hin129 rfl
  have K130 : ∀ t, Steps p.tables e below (T106.setTop (mkF m 182 #[.val (.ref a0), .val (.ref a1), .val (.ref b3), .val (.ref b66), .val (.int (0 : Int32)), .val (.ref u0), .val (.ref k0), .val (.double (FP.dsub r1 (FP.dmul c01 (FP.ddiv r0 dd)))), .second, .val (.int (2 : Int32))] [(.double (FP.ddiv (FP.dsub r1 (FP.dmul c01 (FP.ddiv r0 dd))) c00)), (.int (1 : Int32)), (.ref b66)])) t → Steps p.tables e below G0 t := by
    intro t kt
    refine K128 t ?_
    refine X106.daload hx (j := (0 : Int32)) (v := (.double c00)) (by rw [e106]; exact (Ar129).1) (State.isArrayOf_alike hZ.alike (Ar129).2.1) (Ar129).2.2 hin129 hat129 (g := (mkF m 180 #[.val (.ref a0), .val (.ref a1), .val (.ref b3), .val (.ref b66), .val (.int (0 : Int32)), .val (.ref u0), .val (.ref k0), .val (.double (FP.dsub r1 (FP.dmul c01 (FP.ddiv r0 dd)))), .second, .val (.int (2 : Int32))] [(.int (0 : Int32)), (.ref k0), (.double (FP.dsub r1 (FP.dmul c01 (FP.ddiv r0 dd)))), (.int (1 : Int32)), (.ref b66)])) rfl rfl (hb hby d6_180) _ ?_
    show Steps p.tables e below (T106.setTop (mkF m 181 #[.val (.ref a0), .val (.ref a1), .val (.ref b3), .val (.ref b66), .val (.int (0 : Int32)), .val (.ref u0), .val (.ref k0), .val (.double (FP.dsub r1 (FP.dmul c01 (FP.ddiv r0 dd)))), .second, .val (.int (2 : Int32))] [(.double c00), (.double (FP.dsub r1 (FP.dmul c01 (FP.ddiv r0 dd)))), (.int (1 : Int32)), (.ref b66)])) _
    refine XS.ddivS X106.here hx rfl (hb hby d6_181) rfl hn4 rfl ?_
    show Steps p.tables e below (T106.setTop (mkF m 182 #[.val (.ref a0), .val (.ref a1), .val (.ref b3), .val (.ref b66), .val (.int (0 : Int32)), .val (.ref u0), .val (.ref k0), .val (.double (FP.dsub r1 (FP.dmul c01 (FP.ddiv r0 dd)))), .second, .val (.int (2 : Int32))] [(.double (FP.ddiv (FP.dsub r1 (FP.dmul c01 (FP.ddiv r0 dd))) c00)), (.int (1 : Int32)), (.ref b66)])) _
    exact kt
  obtain ⟨cl131, Ar131, qq131, S131, M131, H131, GG131⟩ := id VL96
  have hin131 : ¬ ((1 : Int32) < 0 ∨ cl131.slots.size ≤ ((1 : Int32)).toNatClampNeg) := inb_of S131 ⟨by decide, by decide⟩
  obtain ⟨T132, h132, X132, e132, W132, st132⟩ := stD X106 hx hZ e106 Ar131 (j := (1 : Int32)) hin131 (g := (mkF m 182 #[.val (.ref a0), .val (.ref a1), .val (.ref b3), .val (.ref b66), .val (.int (0 : Int32)), .val (.ref u0), .val (.ref k0), .val (.double (FP.dsub r1 (FP.dmul c01 (FP.ddiv r0 dd)))), .second, .val (.int (2 : Int32))] [(.double (FP.ddiv (FP.dsub r1 (FP.dmul c01 (FP.ddiv r0 dd))) c00)), (.int (1 : Int32)), (.ref b66)])) rfl rfl (hb hby d6_182)
  have K132 : ∀ t, Steps p.tables e below (T132.setTop (mkF m 183 #[.val (.ref a0), .val (.ref a1), .val (.ref b3), .val (.ref b66), .val (.int (0 : Int32)), .val (.ref u0), .val (.ref k0), .val (.double (FP.dsub r1 (FP.dmul c01 (FP.ddiv r0 dd)))), .second, .val (.int (2 : Int32))] [])) t → Steps p.tables e below G0 t := fun t kt => K130 t (st132 _ kt)
  have Z132 : n0 ≤ h132.size := Nat.le_trans Z96 (Keep.of_wr W132).1
  have VL132 : Arv Z h132 b66 k66 .double (2 : Int32) [(.double (FP.ddiv r0 dd)), (.double (FP.ddiv (FP.dsub r1 (FP.dmul c01 (FP.ddiv r0 dd))) c00))] (.double 0) := Arv.set Ar131 qq131 S131 M131 H131 GG131 rfl W132 1 rfl (Nat.le_of_ble_eq_true rfl)
  have N132 := Fr.snoc X132 N96 gn66
  have K133 : ∀ t, Steps p.tables e below (T132.setTop (mkF m 186 #[.val (.ref a0), .val (.ref a1), .val (.ref b3), .val (.ref b66), .val (.int ((0 : Int32) + (-1 : Int32))), .val (.ref u0), .val (.ref k0), .val (.double (FP.dsub r1 (FP.dmul c01 (FP.ddiv r0 dd)))), .second, .val (.int (2 : Int32))] [])) t → Steps p.tables e below G0 t := by
    intro t kt
    refine K132 t ?_
    refine XS.iinc X132.here hx rfl (hb hby d6_183) rfl (l' := #[.val (.ref a0), .val (.ref a1), .val (.ref b3), .val (.ref b66), .val (.int ((0 : Int32) + (-1 : Int32))), .val (.ref u0), .val (.ref k0), .val (.double (FP.dsub r1 (FP.dmul c01 (FP.ddiv r0 dd)))), .second, .val (.int (2 : Int32))]) rfl ?_
    show Steps p.tables e below (T132.setTop (mkF m 186 #[.val (.ref a0), .val (.ref a1), .val (.ref b3), .val (.ref b66), .val (.int ((0 : Int32) + (-1 : Int32))), .val (.ref u0), .val (.ref k0), .val (.double (FP.dsub r1 (FP.dmul c01 (FP.ddiv r0 dd)))), .second, .val (.int (2 : Int32))] [])) _
    exact kt
  rw [show ((0 : Int32) + (-1 : Int32)) = (-1 : Int32) from by decide] at K133
  have K134 : ∀ t, Steps p.tables e below (T132.setTop (mkF m 190 #[.val (.ref a0), .val (.ref a1), .val (.ref b3), .val (.ref b66), .val (.int (-1 : Int32)), .val (.ref u0), .val (.ref k0), .val (.double (FP.dsub r1 (FP.dmul c01 (FP.ddiv r0 dd)))), .second, .val (.int (2 : Int32))] [(.ref b66)])) t → Steps p.tables e below G0 t := by
    intro t kt
    refine K133 t ?_
    refine XS.goto X132.here hx rfl (pc0 := 186) (pc' := 106) rfl (hb hby d6_186) (by decide) (by decide) ?_
    show Steps p.tables e below (T132.setTop (mkF m 106 #[.val (.ref a0), .val (.ref a1), .val (.ref b3), .val (.ref b66), .val (.int (-1 : Int32)), .val (.ref u0), .val (.ref k0), .val (.double (FP.dsub r1 (FP.dmul c01 (FP.ddiv r0 dd)))), .second, .val (.int (2 : Int32))] [])) _
    refine XS.iload X132.here hx rfl (hb hby d6_106) rfl ?_
    show Steps p.tables e below (T132.setTop (mkF m 108 #[.val (.ref a0), .val (.ref a1), .val (.ref b3), .val (.ref b66), .val (.int (-1 : Int32)), .val (.ref u0), .val (.ref k0), .val (.double (FP.dsub r1 (FP.dmul c01 (FP.ddiv r0 dd)))), .second, .val (.int (2 : Int32))] [(.int (-1 : Int32))])) _
    refine XS.ifYes X132.here hx rfl (pc0 := 108) (pc' := 189) rfl (hb hby d6_108) rfl ((if0 _ _).trans (tlt (by decide)).1) (by decide) (by decide) ?_
    show Steps p.tables e below (T132.setTop (mkF m 189 #[.val (.ref a0), .val (.ref a1), .val (.ref b3), .val (.ref b66), .val (.int (-1 : Int32)), .val (.ref u0), .val (.ref k0), .val (.double (FP.dsub r1 (FP.dmul c01 (FP.ddiv r0 dd)))), .second, .val (.int (2 : Int32))] [])) _
    refine XS.aloadN X132.here hx rfl (hb hby d6_189) rfl rfl ?_
    show Steps p.tables e below (T132.setTop (mkF m 190 #[.val (.ref a0), .val (.ref a1), .val (.ref b3), .val (.ref b66), .val (.int (-1 : Int32)), .val (.ref u0), .val (.ref k0), .val (.double (FP.dsub r1 (FP.dmul c01 (FP.ddiv r0 dd)))), .second, .val (.int (2 : Int32))] [(.ref b66)])) _
    exact kt
  have KQ135_0 := Keep.refl h0 []
  have sz135_3 := Nat.le_trans KQ135_0.1 (Nat.le_of_eq g3.symm)
  have KQ135_1 := KQ135_0.ext E3
  have KQ135_2 := KQ135_1.wr W24 (Or.inr sz135_3)
  have KQ135_3 := KQ135_2.wr W46 (Or.inr sz135_3)
  have sz135_66 := Nat.le_trans KQ135_3.1 (Nat.le_of_eq g66.symm)
  have KQ135_4 := KQ135_3.ext E66
  have KQ135_5 := KQ135_4.wr W96 (Or.inr sz135_66)
  have KQ135_6 := KQ135_5.wr W132 (Or.inr sz135_66)
  obtain ⟨fs, hr, hrun, hended, hW, hsame⟩ := X132.leave (v := some (.ref b66)) (fun h => by rw [Bd.returns] at h; cases h)
  refine ⟨_, _, ?_, hrun, hended, _, _, rfl, ?_, ⟨_, rfl⟩, hW, hsame.mono (by decide) (by decide)⟩
  · rw [← hG0]
    refine K134 _ ?_
    exact retOut X132 hx (t := (.array .double)) Bd.returns rfl (Or.inr (Or.inr (Or.inr (Or.inr ⟨rfl, rfl, rfl⟩)))) (hb hby d6_190) hr
  · show Q6_11 Z a0 a1 rb ml ln pe pu pc u0 u1 k0 k1 kr km kl ke ku kc kq kh1 kh2 kh3 kh4 rd lrb lml r0 r1 c00 c01 dd h0 n0 _ T132.heap _
    rw [e132]
    exact ⟨b66, _, rfl, N132, KQ135_6, VL132⟩
theorem pn_com_example_sondage_sondage_inference_FactorizationPivotPinLaw : plainName "com/example/sondage/sondage/inference/FactorizationPivotPinLaw" = true := by first | (simp [plainName, overriddenIn]; done) | decide +kernel
theorem pd_PIIQV : parseMethodDescriptor "(II)V" = some ⟨[.int, .int], none⟩ := by decide +kernel
theorem pd_PI_I_DQI : parseMethodDescriptor "(I[I[D)I" = some ⟨[.int, (.array .int), (.array .double)], some .int⟩ := by decide +kernel
theorem pd_PQJ : parseMethodDescriptor "()J" = some ⟨[], some .long⟩ := by decide +kernel
theorem pd_P_DQ_D : parseMethodDescriptor "([D)[D" = some ⟨[(.array .double)], some (.array .double)⟩ := by decide +kernel
theorem ef_rm0 (m : MethodId) (fl : Int32) (ja : Int32) (jb : Int32) (jc : Int32) (j0 : Int32) (j1 : Int32) : entryFrame m #[(.int fl), (.int ja), (.int jb), (.int jc), (.int j0), (.int j1)] maxLocals = (mkF m 0 #[.val (.int fl), .val (.int ja), .val (.int jb), .val (.int jc), .val (.int j0), .val (.int j1), .unset, .unset, .unset, .unset, .unset, .unset, .unset, .unset, .unset, .unset, .unset, .unset, .unset, .unset, .unset, .unset, .unset, .unset, .unset, .unset, .unset, .unset, .unset] []) := by first | (simp [entryFrame, mkF, argsToLocals, Value.category, maxLocals]; done) | rfl
def Q0 (Z : State) (fl : Int32) (ja : Int32) (jb : Int32) (jc : Int32) (j0 : Int32) (j1 : Int32) (h0 : Heap) (n0 : Nat) (v : Option Value) (h : Heap) (L : List Loc) : Prop := v = some (.int 1) ∧ Fr n0 L
set_option maxRecDepth 65536 in
set_option maxHeartbeats 40000000 in
theorem rm0 (l : Launch) (Z : State) (aa : Array Value) (hw : ∀ d ∈ tables_1, d.before aa Z = true) (ws : List Jvm.Cond) (fl : Int32) (ja : Int32) (jb : Int32) (jc : Int32) (j0 : Int32) (j1 : Int32) (h0 : Heap) (n0 : Nat) (Z0 : n0 ≤ h0.size) :
    MetFree l x (head1 (Jvm.Cond.code x code maxLocals ret :: ws) room_1) (fun a U => a = #[(.int fl), (.int ja), (.int jb), (.int jc), (.int j0), (.int j1)] ∧ Z.Warmed39 U.vm ∧ U.heap = h0) (fun _ _ _ _ _ => True) (fun _ U o U' => ∃ v L, o = .returned v ∧ Q0 Z fl ja jb jc j0 j1 h0 n0 v U'.heap L ∧ FrameEnd U o U' L room_1.cells room_1.slots) := by
  refine MetFree.of_bodySF (plainFor_of_name pn_com_example_sondage_sondage_inference_FactorizationPivotPinLaw) hisR ?_
  intro p e s m args below meth c s₁ Bd hml0 hP hK
  obtain ⟨rfl, hZ, hh⟩ := hP
  have hx := Bd.exec
  have hby := Bd.bytes
  have hml : c.maxLocals = 29 := hml0
  have hown : s.vm.findClass "com/example/sondage/sondage/inference/FactorizationPivotPinLaw" = some m.cls := findClass_of_methodNamed Bd.named
  have hnm := (name_of_methodNamed Bd.named Bd.method).1
  have X0 : Stand p l e room_1 s m #[(.int fl), (.int ja), (.int jb), (.int jc), (.int j0), (.int j1)] below meth c s₁ [] 0 0 := Stand.of_body Bd
  have e0 : s₁.heap = h0 := by rw [← hh, Bd.state]; rfl
  have N0 := Fr.nil n0
  obtain ⟨G0, hG0⟩ : ∃ G, G = s₁.setTop (entryFrame m #[(.int fl), (.int ja), (.int jb), (.int jc), (.int j0), (.int j1)] maxLocals) := ⟨_, rfl⟩
  have K0 : ∀ t, Steps p.tables e below (s₁.setTop (mkF m 0 #[.val (.int fl), .val (.int ja), .val (.int jb), .val (.int jc), .val (.int j0), .val (.int j1), .unset, .unset, .unset, .unset, .unset, .unset, .unset, .unset, .unset, .unset, .unset, .unset, .unset, .unset, .unset, .unset, .unset, .unset, .unset, .unset, .unset, .unset, .unset] [])) t → Steps p.tables e below G0 t := fun t k => by rw [hG0]; exact castTop (ef_rm0 m fl ja jb jc j0 j1) k
  have K1 : ∀ t, Steps p.tables e below (s₁.setTop (mkF m 5 #[.val (.int fl), .val (.int ja), .val (.int jb), .val (.int jc), .val (.int j0), .val (.int j1), .val (.int (fl &&& (1 : Int32))), .unset, .unset, .unset, .unset, .unset, .unset, .unset, .unset, .unset, .unset, .unset, .unset, .unset, .unset, .unset, .unset, .unset, .unset, .unset, .unset, .unset, .unset] [])) t → Steps p.tables e below G0 t := by
    intro t kt
    refine K0 t ?_
    refine XS.iloadN X0.here hx rfl (hb hby at_0) rfl ?_
    show Steps p.tables e below (s₁.setTop (mkF m 1 #[.val (.int fl), .val (.int ja), .val (.int jb), .val (.int jc), .val (.int j0), .val (.int j1), .unset, .unset, .unset, .unset, .unset, .unset, .unset, .unset, .unset, .unset, .unset, .unset, .unset, .unset, .unset, .unset, .unset, .unset, .unset, .unset, .unset, .unset, .unset] [(.int fl)])) _
    refine XS.iconst X0.here hx rfl (hb hby at_1) ?_
    show Steps p.tables e below (s₁.setTop (mkF m 2 #[.val (.int fl), .val (.int ja), .val (.int jb), .val (.int jc), .val (.int j0), .val (.int j1), .unset, .unset, .unset, .unset, .unset, .unset, .unset, .unset, .unset, .unset, .unset, .unset, .unset, .unset, .unset, .unset, .unset, .unset, .unset, .unset, .unset, .unset, .unset] [(.int (1 : Int32)), (.int fl)])) _
    refine XS.iand X0.here hx rfl (hb hby at_2) rfl ?_
    show Steps p.tables e below (s₁.setTop (mkF m 3 #[.val (.int fl), .val (.int ja), .val (.int jb), .val (.int jc), .val (.int j0), .val (.int j1), .unset, .unset, .unset, .unset, .unset, .unset, .unset, .unset, .unset, .unset, .unset, .unset, .unset, .unset, .unset, .unset, .unset, .unset, .unset, .unset, .unset, .unset, .unset] [(.int (fl &&& (1 : Int32)))])) _
    refine XS.istore X0.here hx rfl (hb hby at_3) rfl (l' := #[.val (.int fl), .val (.int ja), .val (.int jb), .val (.int jc), .val (.int j0), .val (.int j1), .val (.int (fl &&& (1 : Int32))), .unset, .unset, .unset, .unset, .unset, .unset, .unset, .unset, .unset, .unset, .unset, .unset, .unset, .unset, .unset, .unset, .unset, .unset, .unset, .unset, .unset, .unset]) rfl ?_
    show Steps p.tables e below (s₁.setTop (mkF m 5 #[.val (.int fl), .val (.int ja), .val (.int jb), .val (.int jc), .val (.int j0), .val (.int j1), .val (.int (fl &&& (1 : Int32))), .unset, .unset, .unset, .unset, .unset, .unset, .unset, .unset, .unset, .unset, .unset, .unset, .unset, .unset, .unset, .unset, .unset, .unset, .unset, .unset, .unset, .unset] [])) _
    exact kt
  obtain ⟨ev0, h_ev0⟩ : ∃ z, z = (fl &&& (1 : Int32)) := ⟨_, rfl⟩
  rw [← h_ev0] at K1
  have K2 : ∀ t, Steps p.tables e below (s₁.setTop (mkF m 11 #[.val (.int fl), .val (.int ja), .val (.int jb), .val (.int jc), .val (.int j0), .val (.int j1), .val (.int ev0), .val (.int ((1 : Int32) - ev0)), .unset, .unset, .unset, .unset, .unset, .unset, .unset, .unset, .unset, .unset, .unset, .unset, .unset, .unset, .unset, .unset, .unset, .unset, .unset, .unset, .unset] [])) t → Steps p.tables e below G0 t := by
    intro t kt
    refine K1 t ?_
    refine XS.iconst X0.here hx rfl (hb hby at_5) ?_
    show Steps p.tables e below (s₁.setTop (mkF m 6 #[.val (.int fl), .val (.int ja), .val (.int jb), .val (.int jc), .val (.int j0), .val (.int j1), .val (.int ev0), .unset, .unset, .unset, .unset, .unset, .unset, .unset, .unset, .unset, .unset, .unset, .unset, .unset, .unset, .unset, .unset, .unset, .unset, .unset, .unset, .unset, .unset] [(.int (1 : Int32))])) _
    refine XS.iload X0.here hx rfl (hb hby at_6) rfl ?_
    show Steps p.tables e below (s₁.setTop (mkF m 8 #[.val (.int fl), .val (.int ja), .val (.int jb), .val (.int jc), .val (.int j0), .val (.int j1), .val (.int ev0), .unset, .unset, .unset, .unset, .unset, .unset, .unset, .unset, .unset, .unset, .unset, .unset, .unset, .unset, .unset, .unset, .unset, .unset, .unset, .unset, .unset, .unset] [(.int ev0), (.int (1 : Int32))])) _
    refine XS.isub X0.here hx rfl (hb hby at_8) rfl ?_
    show Steps p.tables e below (s₁.setTop (mkF m 9 #[.val (.int fl), .val (.int ja), .val (.int jb), .val (.int jc), .val (.int j0), .val (.int j1), .val (.int ev0), .unset, .unset, .unset, .unset, .unset, .unset, .unset, .unset, .unset, .unset, .unset, .unset, .unset, .unset, .unset, .unset, .unset, .unset, .unset, .unset, .unset, .unset] [(.int ((1 : Int32) - ev0))])) _
    refine XS.istore X0.here hx rfl (hb hby at_9) rfl (l' := #[.val (.int fl), .val (.int ja), .val (.int jb), .val (.int jc), .val (.int j0), .val (.int j1), .val (.int ev0), .val (.int ((1 : Int32) - ev0)), .unset, .unset, .unset, .unset, .unset, .unset, .unset, .unset, .unset, .unset, .unset, .unset, .unset, .unset, .unset, .unset, .unset, .unset, .unset, .unset, .unset]) rfl ?_
    show Steps p.tables e below (s₁.setTop (mkF m 11 #[.val (.int fl), .val (.int ja), .val (.int jb), .val (.int jc), .val (.int j0), .val (.int j1), .val (.int ev0), .val (.int ((1 : Int32) - ev0)), .unset, .unset, .unset, .unset, .unset, .unset, .unset, .unset, .unset, .unset, .unset, .unset, .unset, .unset, .unset, .unset, .unset, .unset, .unset, .unset, .unset] [])) _
    exact kt
  obtain ⟨ev1, h_ev1⟩ : ∃ z, z = ((1 : Int32) - ev0) := ⟨_, rfl⟩
  rw [← h_ev1] at K2
  have K3 : ∀ t, Steps p.tables e below (s₁.setTop (mkF m 18 #[.val (.int fl), .val (.int ja), .val (.int jb), .val (.int jc), .val (.int j0), .val (.int j1), .val (.int ev0), .val (.int ev1), .val (.int (((fl.toUInt32 >>> ((1 : Int32) &&& 31).toUInt32).toInt32) &&& (1 : Int32))), .unset, .unset, .unset, .unset, .unset, .unset, .unset, .unset, .unset, .unset, .unset, .unset, .unset, .unset, .unset, .unset, .unset, .unset, .unset, .unset] [])) t → Steps p.tables e below G0 t := by
    intro t kt
    refine K2 t ?_
    refine XS.iloadN X0.here hx rfl (hb hby at_11) rfl ?_
    show Steps p.tables e below (s₁.setTop (mkF m 12 #[.val (.int fl), .val (.int ja), .val (.int jb), .val (.int jc), .val (.int j0), .val (.int j1), .val (.int ev0), .val (.int ev1), .unset, .unset, .unset, .unset, .unset, .unset, .unset, .unset, .unset, .unset, .unset, .unset, .unset, .unset, .unset, .unset, .unset, .unset, .unset, .unset, .unset] [(.int fl)])) _
    refine XS.iconst X0.here hx rfl (hb hby at_12) ?_
    show Steps p.tables e below (s₁.setTop (mkF m 13 #[.val (.int fl), .val (.int ja), .val (.int jb), .val (.int jc), .val (.int j0), .val (.int j1), .val (.int ev0), .val (.int ev1), .unset, .unset, .unset, .unset, .unset, .unset, .unset, .unset, .unset, .unset, .unset, .unset, .unset, .unset, .unset, .unset, .unset, .unset, .unset, .unset, .unset] [(.int (1 : Int32)), (.int fl)])) _
    refine XS.iushr X0.here hx rfl (hb hby at_13) rfl ?_
    show Steps p.tables e below (s₁.setTop (mkF m 14 #[.val (.int fl), .val (.int ja), .val (.int jb), .val (.int jc), .val (.int j0), .val (.int j1), .val (.int ev0), .val (.int ev1), .unset, .unset, .unset, .unset, .unset, .unset, .unset, .unset, .unset, .unset, .unset, .unset, .unset, .unset, .unset, .unset, .unset, .unset, .unset, .unset, .unset] [(.int ((fl.toUInt32 >>> ((1 : Int32) &&& 31).toUInt32).toInt32))])) _
    refine XS.iconst X0.here hx rfl (hb hby at_14) ?_
    show Steps p.tables e below (s₁.setTop (mkF m 15 #[.val (.int fl), .val (.int ja), .val (.int jb), .val (.int jc), .val (.int j0), .val (.int j1), .val (.int ev0), .val (.int ev1), .unset, .unset, .unset, .unset, .unset, .unset, .unset, .unset, .unset, .unset, .unset, .unset, .unset, .unset, .unset, .unset, .unset, .unset, .unset, .unset, .unset] [(.int (1 : Int32)), (.int ((fl.toUInt32 >>> ((1 : Int32) &&& 31).toUInt32).toInt32))])) _
    refine XS.iand X0.here hx rfl (hb hby at_15) rfl ?_
    show Steps p.tables e below (s₁.setTop (mkF m 16 #[.val (.int fl), .val (.int ja), .val (.int jb), .val (.int jc), .val (.int j0), .val (.int j1), .val (.int ev0), .val (.int ev1), .unset, .unset, .unset, .unset, .unset, .unset, .unset, .unset, .unset, .unset, .unset, .unset, .unset, .unset, .unset, .unset, .unset, .unset, .unset, .unset, .unset] [(.int (((fl.toUInt32 >>> ((1 : Int32) &&& 31).toUInt32).toInt32) &&& (1 : Int32)))])) _
    refine XS.istore X0.here hx rfl (hb hby at_16) rfl (l' := #[.val (.int fl), .val (.int ja), .val (.int jb), .val (.int jc), .val (.int j0), .val (.int j1), .val (.int ev0), .val (.int ev1), .val (.int (((fl.toUInt32 >>> ((1 : Int32) &&& 31).toUInt32).toInt32) &&& (1 : Int32))), .unset, .unset, .unset, .unset, .unset, .unset, .unset, .unset, .unset, .unset, .unset, .unset, .unset, .unset, .unset, .unset, .unset, .unset, .unset, .unset]) rfl ?_
    show Steps p.tables e below (s₁.setTop (mkF m 18 #[.val (.int fl), .val (.int ja), .val (.int jb), .val (.int jc), .val (.int j0), .val (.int j1), .val (.int ev0), .val (.int ev1), .val (.int (((fl.toUInt32 >>> ((1 : Int32) &&& 31).toUInt32).toInt32) &&& (1 : Int32))), .unset, .unset, .unset, .unset, .unset, .unset, .unset, .unset, .unset, .unset, .unset, .unset, .unset, .unset, .unset, .unset, .unset, .unset, .unset, .unset] [])) _
    exact kt
  obtain ⟨pv0, h_pv0⟩ : ∃ z, z = (((fl.toUInt32 >>> ((1 : Int32) &&& 31).toUInt32).toInt32) &&& (1 : Int32)) := ⟨_, rfl⟩
  rw [← h_pv0] at K3
  have K4 : ∀ t, Steps p.tables e below (s₁.setTop (mkF m 24 #[.val (.int fl), .val (.int ja), .val (.int jb), .val (.int jc), .val (.int j0), .val (.int j1), .val (.int ev0), .val (.int ev1), .val (.int pv0), .val (.int ((1 : Int32) - pv0)), .unset, .unset, .unset, .unset, .unset, .unset, .unset, .unset, .unset, .unset, .unset, .unset, .unset, .unset, .unset, .unset, .unset, .unset, .unset] [])) t → Steps p.tables e below G0 t := by
    intro t kt
    refine K3 t ?_
    refine XS.iconst X0.here hx rfl (hb hby at_18) ?_
    show Steps p.tables e below (s₁.setTop (mkF m 19 #[.val (.int fl), .val (.int ja), .val (.int jb), .val (.int jc), .val (.int j0), .val (.int j1), .val (.int ev0), .val (.int ev1), .val (.int pv0), .unset, .unset, .unset, .unset, .unset, .unset, .unset, .unset, .unset, .unset, .unset, .unset, .unset, .unset, .unset, .unset, .unset, .unset, .unset, .unset] [(.int (1 : Int32))])) _
    refine XS.iload X0.here hx rfl (hb hby at_19) rfl ?_
    show Steps p.tables e below (s₁.setTop (mkF m 21 #[.val (.int fl), .val (.int ja), .val (.int jb), .val (.int jc), .val (.int j0), .val (.int j1), .val (.int ev0), .val (.int ev1), .val (.int pv0), .unset, .unset, .unset, .unset, .unset, .unset, .unset, .unset, .unset, .unset, .unset, .unset, .unset, .unset, .unset, .unset, .unset, .unset, .unset, .unset] [(.int pv0), (.int (1 : Int32))])) _
    refine XS.isub X0.here hx rfl (hb hby at_21) rfl ?_
    show Steps p.tables e below (s₁.setTop (mkF m 22 #[.val (.int fl), .val (.int ja), .val (.int jb), .val (.int jc), .val (.int j0), .val (.int j1), .val (.int ev0), .val (.int ev1), .val (.int pv0), .unset, .unset, .unset, .unset, .unset, .unset, .unset, .unset, .unset, .unset, .unset, .unset, .unset, .unset, .unset, .unset, .unset, .unset, .unset, .unset] [(.int ((1 : Int32) - pv0))])) _
    refine XS.istore X0.here hx rfl (hb hby at_22) rfl (l' := #[.val (.int fl), .val (.int ja), .val (.int jb), .val (.int jc), .val (.int j0), .val (.int j1), .val (.int ev0), .val (.int ev1), .val (.int pv0), .val (.int ((1 : Int32) - pv0)), .unset, .unset, .unset, .unset, .unset, .unset, .unset, .unset, .unset, .unset, .unset, .unset, .unset, .unset, .unset, .unset, .unset, .unset, .unset]) rfl ?_
    show Steps p.tables e below (s₁.setTop (mkF m 24 #[.val (.int fl), .val (.int ja), .val (.int jb), .val (.int jc), .val (.int j0), .val (.int j1), .val (.int ev0), .val (.int ev1), .val (.int pv0), .val (.int ((1 : Int32) - pv0)), .unset, .unset, .unset, .unset, .unset, .unset, .unset, .unset, .unset, .unset, .unset, .unset, .unset, .unset, .unset, .unset, .unset, .unset, .unset] [])) _
    exact kt
  obtain ⟨pv1, h_pv1⟩ : ∃ z, z = ((1 : Int32) - pv0) := ⟨_, rfl⟩
  rw [← h_pv1] at K4
  have K5 : ∀ t, Steps p.tables e below (s₁.setTop (mkF m 25 #[.val (.int fl), .val (.int ja), .val (.int jb), .val (.int jc), .val (.int j0), .val (.int j1), .val (.int ev0), .val (.int ev1), .val (.int pv0), .val (.int pv1), .unset, .unset, .unset, .unset, .unset, .unset, .unset, .unset, .unset, .unset, .unset, .unset, .unset, .unset, .unset, .unset, .unset, .unset, .unset] [(.int ja)])) t → Steps p.tables e below G0 t := by
    intro t kt
    refine K4 t ?_
    refine XS.iloadN X0.here hx rfl (hb hby at_24) rfl ?_
    show Steps p.tables e below (s₁.setTop (mkF m 25 #[.val (.int fl), .val (.int ja), .val (.int jb), .val (.int jc), .val (.int j0), .val (.int j1), .val (.int ev0), .val (.int ev1), .val (.int pv0), .val (.int pv1), .unset, .unset, .unset, .unset, .unset, .unset, .unset, .unset, .unset, .unset, .unset, .unset, .unset, .unset, .unset, .unset, .unset, .unset, .unset] [(.int ja)])) _
    exact kt
  have K6 : ∀ t, Steps p.tables e below (s₁.setTop (mkF m 36 #[.val (.int fl), .val (.int ja), .val (.int jb), .val (.int jc), .val (.int j0), .val (.int j1), .val (.int ev0), .val (.int ev1), .val (.int pv0), .val (.int pv1), .val (.double (FP.l2d (own_nz ja))), .second, .unset, .unset, .unset, .unset, .unset, .unset, .unset, .unset, .unset, .unset, .unset, .unset, .unset, .unset, .unset, .unset, .unset] [])) t → Steps p.tables e below G0 t := by
    by_cases hc7 : ja = (0 : Int32)
    ·
      have K8 : ∀ t, Steps p.tables e below (s₁.setTop (mkF m 36 #[.val (.int fl), .val (.int ja), .val (.int jb), .val (.int jc), .val (.int j0), .val (.int j1), .val (.int ev0), .val (.int ev1), .val (.int pv0), .val (.int pv1), .val (.double FP.dconst1), .second, .unset, .unset, .unset, .unset, .unset, .unset, .unset, .unset, .unset, .unset, .unset, .unset, .unset, .unset, .unset, .unset, .unset] [])) t → Steps p.tables e below G0 t := by
        intro t kt
        refine K5 t ?_
        refine XS.ifNo X0.here hx rfl (hb hby at_25) rfl ((if0 _ _).trans (teq hc7).2) ?_
        show Steps p.tables e below (s₁.setTop (mkF m 28 #[.val (.int fl), .val (.int ja), .val (.int jb), .val (.int jc), .val (.int j0), .val (.int j1), .val (.int ev0), .val (.int ev1), .val (.int pv0), .val (.int pv1), .unset, .unset, .unset, .unset, .unset, .unset, .unset, .unset, .unset, .unset, .unset, .unset, .unset, .unset, .unset, .unset, .unset, .unset, .unset] [])) _
        refine XS.dconst1 X0.here hx rfl (hb hby at_28) rfl ?_
        show Steps p.tables e below (s₁.setTop (mkF m 29 #[.val (.int fl), .val (.int ja), .val (.int jb), .val (.int jc), .val (.int j0), .val (.int j1), .val (.int ev0), .val (.int ev1), .val (.int pv0), .val (.int pv1), .unset, .unset, .unset, .unset, .unset, .unset, .unset, .unset, .unset, .unset, .unset, .unset, .unset, .unset, .unset, .unset, .unset, .unset, .unset] [(.double FP.dconst1)])) _
        refine XS.goto X0.here hx rfl (pc0 := 29) (pc' := 34) rfl (hb hby at_29) (by decide) (by decide) ?_
        show Steps p.tables e below (s₁.setTop (mkF m 34 #[.val (.int fl), .val (.int ja), .val (.int jb), .val (.int jc), .val (.int j0), .val (.int j1), .val (.int ev0), .val (.int ev1), .val (.int pv0), .val (.int pv1), .unset, .unset, .unset, .unset, .unset, .unset, .unset, .unset, .unset, .unset, .unset, .unset, .unset, .unset, .unset, .unset, .unset, .unset, .unset] [(.double FP.dconst1)])) _
        refine XS.dstore X0.here hx rfl (hb hby at_34) rfl (l' := #[.val (.int fl), .val (.int ja), .val (.int jb), .val (.int jc), .val (.int j0), .val (.int j1), .val (.int ev0), .val (.int ev1), .val (.int pv0), .val (.int pv1), .val (.double FP.dconst1), .second, .unset, .unset, .unset, .unset, .unset, .unset, .unset, .unset, .unset, .unset, .unset, .unset, .unset, .unset, .unset, .unset, .unset]) rfl ?_
        show Steps p.tables e below (s₁.setTop (mkF m 36 #[.val (.int fl), .val (.int ja), .val (.int jb), .val (.int jc), .val (.int j0), .val (.int j1), .val (.int ev0), .val (.int ev1), .val (.int pv0), .val (.int pv1), .val (.double FP.dconst1), .second, .unset, .unset, .unset, .unset, .unset, .unset, .unset, .unset, .unset, .unset, .unset, .unset, .unset, .unset, .unset, .unset, .unset] [])) _
        exact kt
      rw [show FP.l2d (own_nz ja) = FP.dconst1 from by rw [own_nz, if_pos hc7]; decide +kernel]
      exact K8
    ·
      have K9 : ∀ t, Steps p.tables e below (s₁.setTop (mkF m 36 #[.val (.int fl), .val (.int ja), .val (.int jb), .val (.int jc), .val (.int j0), .val (.int j1), .val (.int ev0), .val (.int ev1), .val (.int pv0), .val (.int pv1), .val (.double (FP.i2d ja)), .second, .unset, .unset, .unset, .unset, .unset, .unset, .unset, .unset, .unset, .unset, .unset, .unset, .unset, .unset, .unset, .unset, .unset] [])) t → Steps p.tables e below G0 t := by
        intro t kt
        refine K5 t ?_
        refine XS.ifYes X0.here hx rfl (pc0 := 25) (pc' := 32) rfl (hb hby at_25) rfl ((if0 _ _).trans (feq hc7).2) (by decide) (by decide) ?_
        show Steps p.tables e below (s₁.setTop (mkF m 32 #[.val (.int fl), .val (.int ja), .val (.int jb), .val (.int jc), .val (.int j0), .val (.int j1), .val (.int ev0), .val (.int ev1), .val (.int pv0), .val (.int pv1), .unset, .unset, .unset, .unset, .unset, .unset, .unset, .unset, .unset, .unset, .unset, .unset, .unset, .unset, .unset, .unset, .unset, .unset, .unset] [])) _
        refine XS.iloadN X0.here hx rfl (hb hby at_32) rfl ?_
        show Steps p.tables e below (s₁.setTop (mkF m 33 #[.val (.int fl), .val (.int ja), .val (.int jb), .val (.int jc), .val (.int j0), .val (.int j1), .val (.int ev0), .val (.int ev1), .val (.int pv0), .val (.int pv1), .unset, .unset, .unset, .unset, .unset, .unset, .unset, .unset, .unset, .unset, .unset, .unset, .unset, .unset, .unset, .unset, .unset, .unset, .unset] [(.int ja)])) _
        refine XS.i2dS X0.here hx rfl (hb hby at_33) rfl rfl ?_
        show Steps p.tables e below (s₁.setTop (mkF m 34 #[.val (.int fl), .val (.int ja), .val (.int jb), .val (.int jc), .val (.int j0), .val (.int j1), .val (.int ev0), .val (.int ev1), .val (.int pv0), .val (.int pv1), .unset, .unset, .unset, .unset, .unset, .unset, .unset, .unset, .unset, .unset, .unset, .unset, .unset, .unset, .unset, .unset, .unset, .unset, .unset] [(.double (FP.i2d ja))])) _
        refine XS.dstore X0.here hx rfl (hb hby at_34) rfl (l' := #[.val (.int fl), .val (.int ja), .val (.int jb), .val (.int jc), .val (.int j0), .val (.int j1), .val (.int ev0), .val (.int ev1), .val (.int pv0), .val (.int pv1), .val (.double (FP.i2d ja)), .second, .unset, .unset, .unset, .unset, .unset, .unset, .unset, .unset, .unset, .unset, .unset, .unset, .unset, .unset, .unset, .unset, .unset]) rfl ?_
        show Steps p.tables e below (s₁.setTop (mkF m 36 #[.val (.int fl), .val (.int ja), .val (.int jb), .val (.int jc), .val (.int j0), .val (.int j1), .val (.int ev0), .val (.int ev1), .val (.int pv0), .val (.int pv1), .val (.double (FP.i2d ja)), .second, .unset, .unset, .unset, .unset, .unset, .unset, .unset, .unset, .unset, .unset, .unset, .unset, .unset, .unset, .unset, .unset, .unset] [])) _
        exact kt
      rw [show FP.l2d (own_nz ja) = (FP.i2d ja) from by rw [own_nz, if_neg hc7]; exact (i2d_w ja).symm]
      exact K9
  have K10 : ∀ t, Steps p.tables e below (s₁.setTop (mkF m 41 #[.val (.int fl), .val (.int ja), .val (.int jb), .val (.int jc), .val (.int j0), .val (.int j1), .val (.int ev0), .val (.int ev1), .val (.int pv0), .val (.int pv1), .val (.double (FP.l2d (own_nz ja))), .second, .val (.double (FP.i2d jb)), .second, .unset, .unset, .unset, .unset, .unset, .unset, .unset, .unset, .unset, .unset, .unset, .unset, .unset, .unset, .unset] [(.int jc)])) t → Steps p.tables e below G0 t := by
    intro t kt
    refine K6 t ?_
    refine XS.iloadN X0.here hx rfl (hb hby at_36) rfl ?_
    show Steps p.tables e below (s₁.setTop (mkF m 37 #[.val (.int fl), .val (.int ja), .val (.int jb), .val (.int jc), .val (.int j0), .val (.int j1), .val (.int ev0), .val (.int ev1), .val (.int pv0), .val (.int pv1), .val (.double (FP.l2d (own_nz ja))), .second, .unset, .unset, .unset, .unset, .unset, .unset, .unset, .unset, .unset, .unset, .unset, .unset, .unset, .unset, .unset, .unset, .unset] [(.int jb)])) _
    refine XS.i2dS X0.here hx rfl (hb hby at_37) rfl rfl ?_
    show Steps p.tables e below (s₁.setTop (mkF m 38 #[.val (.int fl), .val (.int ja), .val (.int jb), .val (.int jc), .val (.int j0), .val (.int j1), .val (.int ev0), .val (.int ev1), .val (.int pv0), .val (.int pv1), .val (.double (FP.l2d (own_nz ja))), .second, .unset, .unset, .unset, .unset, .unset, .unset, .unset, .unset, .unset, .unset, .unset, .unset, .unset, .unset, .unset, .unset, .unset] [(.double (FP.i2d jb))])) _
    refine XS.dstore X0.here hx rfl (hb hby at_38) rfl (l' := #[.val (.int fl), .val (.int ja), .val (.int jb), .val (.int jc), .val (.int j0), .val (.int j1), .val (.int ev0), .val (.int ev1), .val (.int pv0), .val (.int pv1), .val (.double (FP.l2d (own_nz ja))), .second, .val (.double (FP.i2d jb)), .second, .unset, .unset, .unset, .unset, .unset, .unset, .unset, .unset, .unset, .unset, .unset, .unset, .unset, .unset, .unset]) rfl ?_
    show Steps p.tables e below (s₁.setTop (mkF m 40 #[.val (.int fl), .val (.int ja), .val (.int jb), .val (.int jc), .val (.int j0), .val (.int j1), .val (.int ev0), .val (.int ev1), .val (.int pv0), .val (.int pv1), .val (.double (FP.l2d (own_nz ja))), .second, .val (.double (FP.i2d jb)), .second, .unset, .unset, .unset, .unset, .unset, .unset, .unset, .unset, .unset, .unset, .unset, .unset, .unset, .unset, .unset] [])) _
    refine XS.iloadN X0.here hx rfl (hb hby at_40) rfl ?_
    show Steps p.tables e below (s₁.setTop (mkF m 41 #[.val (.int fl), .val (.int ja), .val (.int jb), .val (.int jc), .val (.int j0), .val (.int j1), .val (.int ev0), .val (.int ev1), .val (.int pv0), .val (.int pv1), .val (.double (FP.l2d (own_nz ja))), .second, .val (.double (FP.i2d jb)), .second, .unset, .unset, .unset, .unset, .unset, .unset, .unset, .unset, .unset, .unset, .unset, .unset, .unset, .unset, .unset] [(.int jc)])) _
    exact kt
  have K11 : ∀ t, Steps p.tables e below (s₁.setTop (mkF m 52 #[.val (.int fl), .val (.int ja), .val (.int jb), .val (.int jc), .val (.int j0), .val (.int j1), .val (.int ev0), .val (.int ev1), .val (.int pv0), .val (.int pv1), .val (.double (FP.l2d (own_nz ja))), .second, .val (.double (FP.i2d jb)), .second, .val (.double (FP.l2d (own_nz jc))), .second, .unset, .unset, .unset, .unset, .unset, .unset, .unset, .unset, .unset, .unset, .unset, .unset, .unset] [])) t → Steps p.tables e below G0 t := by
    by_cases hc12 : jc = (0 : Int32)
    ·
      have K13 : ∀ t, Steps p.tables e below (s₁.setTop (mkF m 52 #[.val (.int fl), .val (.int ja), .val (.int jb), .val (.int jc), .val (.int j0), .val (.int j1), .val (.int ev0), .val (.int ev1), .val (.int pv0), .val (.int pv1), .val (.double (FP.l2d (own_nz ja))), .second, .val (.double (FP.i2d jb)), .second, .val (.double FP.dconst1), .second, .unset, .unset, .unset, .unset, .unset, .unset, .unset, .unset, .unset, .unset, .unset, .unset, .unset] [])) t → Steps p.tables e below G0 t := by
        intro t kt
        refine K10 t ?_
        refine XS.ifNo X0.here hx rfl (hb hby at_41) rfl ((if0 _ _).trans (teq hc12).2) ?_
        show Steps p.tables e below (s₁.setTop (mkF m 44 #[.val (.int fl), .val (.int ja), .val (.int jb), .val (.int jc), .val (.int j0), .val (.int j1), .val (.int ev0), .val (.int ev1), .val (.int pv0), .val (.int pv1), .val (.double (FP.l2d (own_nz ja))), .second, .val (.double (FP.i2d jb)), .second, .unset, .unset, .unset, .unset, .unset, .unset, .unset, .unset, .unset, .unset, .unset, .unset, .unset, .unset, .unset] [])) _
        refine XS.dconst1 X0.here hx rfl (hb hby at_44) rfl ?_
        show Steps p.tables e below (s₁.setTop (mkF m 45 #[.val (.int fl), .val (.int ja), .val (.int jb), .val (.int jc), .val (.int j0), .val (.int j1), .val (.int ev0), .val (.int ev1), .val (.int pv0), .val (.int pv1), .val (.double (FP.l2d (own_nz ja))), .second, .val (.double (FP.i2d jb)), .second, .unset, .unset, .unset, .unset, .unset, .unset, .unset, .unset, .unset, .unset, .unset, .unset, .unset, .unset, .unset] [(.double FP.dconst1)])) _
        refine XS.goto X0.here hx rfl (pc0 := 45) (pc' := 50) rfl (hb hby at_45) (by decide) (by decide) ?_
        show Steps p.tables e below (s₁.setTop (mkF m 50 #[.val (.int fl), .val (.int ja), .val (.int jb), .val (.int jc), .val (.int j0), .val (.int j1), .val (.int ev0), .val (.int ev1), .val (.int pv0), .val (.int pv1), .val (.double (FP.l2d (own_nz ja))), .second, .val (.double (FP.i2d jb)), .second, .unset, .unset, .unset, .unset, .unset, .unset, .unset, .unset, .unset, .unset, .unset, .unset, .unset, .unset, .unset] [(.double FP.dconst1)])) _
        refine XS.dstore X0.here hx rfl (hb hby at_50) rfl (l' := #[.val (.int fl), .val (.int ja), .val (.int jb), .val (.int jc), .val (.int j0), .val (.int j1), .val (.int ev0), .val (.int ev1), .val (.int pv0), .val (.int pv1), .val (.double (FP.l2d (own_nz ja))), .second, .val (.double (FP.i2d jb)), .second, .val (.double FP.dconst1), .second, .unset, .unset, .unset, .unset, .unset, .unset, .unset, .unset, .unset, .unset, .unset, .unset, .unset]) rfl ?_
        show Steps p.tables e below (s₁.setTop (mkF m 52 #[.val (.int fl), .val (.int ja), .val (.int jb), .val (.int jc), .val (.int j0), .val (.int j1), .val (.int ev0), .val (.int ev1), .val (.int pv0), .val (.int pv1), .val (.double (FP.l2d (own_nz ja))), .second, .val (.double (FP.i2d jb)), .second, .val (.double FP.dconst1), .second, .unset, .unset, .unset, .unset, .unset, .unset, .unset, .unset, .unset, .unset, .unset, .unset, .unset] [])) _
        exact kt
      rw [show FP.l2d (own_nz jc) = FP.dconst1 from by rw [own_nz, if_pos hc12]; decide +kernel]
      exact K13
    ·
      have K14 : ∀ t, Steps p.tables e below (s₁.setTop (mkF m 52 #[.val (.int fl), .val (.int ja), .val (.int jb), .val (.int jc), .val (.int j0), .val (.int j1), .val (.int ev0), .val (.int ev1), .val (.int pv0), .val (.int pv1), .val (.double (FP.l2d (own_nz ja))), .second, .val (.double (FP.i2d jb)), .second, .val (.double (FP.i2d jc)), .second, .unset, .unset, .unset, .unset, .unset, .unset, .unset, .unset, .unset, .unset, .unset, .unset, .unset] [])) t → Steps p.tables e below G0 t := by
        intro t kt
        refine K10 t ?_
        refine XS.ifYes X0.here hx rfl (pc0 := 41) (pc' := 48) rfl (hb hby at_41) rfl ((if0 _ _).trans (feq hc12).2) (by decide) (by decide) ?_
        show Steps p.tables e below (s₁.setTop (mkF m 48 #[.val (.int fl), .val (.int ja), .val (.int jb), .val (.int jc), .val (.int j0), .val (.int j1), .val (.int ev0), .val (.int ev1), .val (.int pv0), .val (.int pv1), .val (.double (FP.l2d (own_nz ja))), .second, .val (.double (FP.i2d jb)), .second, .unset, .unset, .unset, .unset, .unset, .unset, .unset, .unset, .unset, .unset, .unset, .unset, .unset, .unset, .unset] [])) _
        refine XS.iloadN X0.here hx rfl (hb hby at_48) rfl ?_
        show Steps p.tables e below (s₁.setTop (mkF m 49 #[.val (.int fl), .val (.int ja), .val (.int jb), .val (.int jc), .val (.int j0), .val (.int j1), .val (.int ev0), .val (.int ev1), .val (.int pv0), .val (.int pv1), .val (.double (FP.l2d (own_nz ja))), .second, .val (.double (FP.i2d jb)), .second, .unset, .unset, .unset, .unset, .unset, .unset, .unset, .unset, .unset, .unset, .unset, .unset, .unset, .unset, .unset] [(.int jc)])) _
        refine XS.i2dS X0.here hx rfl (hb hby at_49) rfl rfl ?_
        show Steps p.tables e below (s₁.setTop (mkF m 50 #[.val (.int fl), .val (.int ja), .val (.int jb), .val (.int jc), .val (.int j0), .val (.int j1), .val (.int ev0), .val (.int ev1), .val (.int pv0), .val (.int pv1), .val (.double (FP.l2d (own_nz ja))), .second, .val (.double (FP.i2d jb)), .second, .unset, .unset, .unset, .unset, .unset, .unset, .unset, .unset, .unset, .unset, .unset, .unset, .unset, .unset, .unset] [(.double (FP.i2d jc))])) _
        refine XS.dstore X0.here hx rfl (hb hby at_50) rfl (l' := #[.val (.int fl), .val (.int ja), .val (.int jb), .val (.int jc), .val (.int j0), .val (.int j1), .val (.int ev0), .val (.int ev1), .val (.int pv0), .val (.int pv1), .val (.double (FP.l2d (own_nz ja))), .second, .val (.double (FP.i2d jb)), .second, .val (.double (FP.i2d jc)), .second, .unset, .unset, .unset, .unset, .unset, .unset, .unset, .unset, .unset, .unset, .unset, .unset, .unset]) rfl ?_
        show Steps p.tables e below (s₁.setTop (mkF m 52 #[.val (.int fl), .val (.int ja), .val (.int jb), .val (.int jc), .val (.int j0), .val (.int j1), .val (.int ev0), .val (.int ev1), .val (.int pv0), .val (.int pv1), .val (.double (FP.l2d (own_nz ja))), .second, .val (.double (FP.i2d jb)), .second, .val (.double (FP.i2d jc)), .second, .unset, .unset, .unset, .unset, .unset, .unset, .unset, .unset, .unset, .unset, .unset, .unset, .unset] [])) _
        exact kt
      rw [show FP.l2d (own_nz jc) = (FP.i2d jc) from by rw [own_nz, if_neg hc12]; exact (i2d_w jc).symm]
      exact K14
  obtain ⟨T15, h15, X15, e15, E15, A15, D15, -, st15⟩ := newO X0 hx hZ hown (hw _ (List.mem_of_getElem? (i := 0) rfl)) (hw _ (List.mem_of_getElem? (i := 1) rfl)) (hw _ (List.mem_of_getElem? (i := 2) rfl)) e0 (g := (mkF m 52 #[.val (.int fl), .val (.int ja), .val (.int jb), .val (.int jc), .val (.int j0), .val (.int j1), .val (.int ev0), .val (.int ev1), .val (.int pv0), .val (.int pv1), .val (.double (FP.l2d (own_nz ja))), .second, .val (.double (FP.i2d jb)), .second, .val (.double (FP.l2d (own_nz jc))), .second, .unset, .unset, .unset, .unset, .unset, .unset, .unset, .unset, .unset, .unset, .unset, .unset, .unset] [])) rfl (hb hby at_52) (by decide) (by decide)
  obtain ⟨b15, g15⟩ : ∃ z, z = h0.size := ⟨_, rfl⟩
  rw [← g15] at A15 D15 st15
  have gn15 : n0 ≤ b15 := Nat.le_trans Z0 (Nat.le_of_eq g15.symm)
  have Z15 : n0 ≤ h15.size := Nat.le_trans Z0 E15.1
  have K15 : ∀ t, Steps p.tables e below (T15.setTop (mkF m 55 #[.val (.int fl), .val (.int ja), .val (.int jb), .val (.int jc), .val (.int j0), .val (.int j1), .val (.int ev0), .val (.int ev1), .val (.int pv0), .val (.int pv1), .val (.double (FP.l2d (own_nz ja))), .second, .val (.double (FP.i2d jb)), .second, .val (.double (FP.l2d (own_nz jc))), .second, .unset, .unset, .unset, .unset, .unset, .unset, .unset, .unset, .unset, .unset, .unset, .unset, .unset] [(.ref b15)])) t → Steps p.tables e below G0 t := fun t kt => K11 t (st15 _ kt)
  have F_unknownCount_b15 := (D15 (Or.inr (hw _ (List.mem_of_getElem? (i := 10) rfl))) (ty := .int) (by decide) : Fld Z h15 b15 "com/example/sondage/sondage/inference/Factorization" "unknownCount" "I" (.int (0 : Int32)))
  have F_determined_b15 := (D15 (Or.inr (hw _ (List.mem_of_getElem? (i := 13) rfl))) (ty := (.array .boolean)) (by decide) : Fld Z h15 b15 "com/example/sondage/sondage/inference/Factorization" "determined" "[Z" .null)
  have F_reducedBy_b15 := (D15 (Or.inr (hw _ (List.mem_of_getElem? (i := 17) rfl))) (ty := (.array (.array .int))) (by decide) : Fld Z h15 b15 "com/example/sondage/sondage/inference/Factorization" "reducedBy" "[[I" .null)
  have F_multipliers_b15 := (D15 (Or.inr (hw _ (List.mem_of_getElem? (i := 21) rfl))) (ty := (.array (.array .double))) (by decide) : Fld Z h15 b15 "com/example/sondage/sondage/inference/Factorization" "multipliers" "[[D" .null)
  have F_lengths_b15 := (D15 (Or.inr (hw _ (List.mem_of_getElem? (i := 24) rfl))) (ty := (.array .int)) (by decide) : Fld Z h15 b15 "com/example/sondage/sondage/inference/Factorization" "lengths" "[I" .null)
  have F_pivotEquation_b15 := (D15 (Or.inr (hw _ (List.mem_of_getElem? (i := 30) rfl))) (ty := (.array .int)) (by decide) : Fld Z h15 b15 "com/example/sondage/sondage/inference/Factorization" "pivotEquation" "[I" .null)
  have F_pivotUnknowns_b15 := (D15 (Or.inr (hw _ (List.mem_of_getElem? (i := 32) rfl))) (ty := (.array (.array .int))) (by decide) : Fld Z h15 b15 "com/example/sondage/sondage/inference/Factorization" "pivotUnknowns" "[[I" .null)
  have F_pivotCoefficients_b15 := (D15 (Or.inr (hw _ (List.mem_of_getElem? (i := 34) rfl))) (ty := (.array (.array .double))) (by decide) : Fld Z h15 b15 "com/example/sondage/sondage/inference/Factorization" "pivotCoefficients" "[[D" .null)
  have F_pivotCount_b15 := (D15 (Or.inl (hw _ (List.mem_of_getElem? (i := 42) rfl))) (ty := .int) (by decide) : Fld Z h15 b15 "com/example/sondage/sondage/inference/Factorization" "pivotCount" "I" (.int (0 : Int32)))
  have F_reductions_b15 := (D15 (Or.inl (hw _ (List.mem_of_getElem? (i := 51) rfl))) (ty := .long) (by decide) : Fld Z h15 b15 "com/example/sondage/sondage/inference/Factorization" "reductions" "J" (.long (0 : Int64)))
  have K16 : ∀ t, Steps p.tables e below (T15.setTop (mkF m 58 #[.val (.int fl), .val (.int ja), .val (.int jb), .val (.int jc), .val (.int j0), .val (.int j1), .val (.int ev0), .val (.int ev1), .val (.int pv0), .val (.int pv1), .val (.double (FP.l2d (own_nz ja))), .second, .val (.double (FP.i2d jb)), .second, .val (.double (FP.l2d (own_nz jc))), .second, .unset, .unset, .unset, .unset, .unset, .unset, .unset, .unset, .unset, .unset, .unset, .unset, .unset] [(.int (2 : Int32)), (.int (2 : Int32)), (.ref b15), (.ref b15)])) t → Steps p.tables e below G0 t := by
    intro t kt
    refine K15 t ?_
    refine XS.dup X15.here hx rfl (hb hby at_55) rfl rfl ?_
    show Steps p.tables e below (T15.setTop (mkF m 56 #[.val (.int fl), .val (.int ja), .val (.int jb), .val (.int jc), .val (.int j0), .val (.int j1), .val (.int ev0), .val (.int ev1), .val (.int pv0), .val (.int pv1), .val (.double (FP.l2d (own_nz ja))), .second, .val (.double (FP.i2d jb)), .second, .val (.double (FP.l2d (own_nz jc))), .second, .unset, .unset, .unset, .unset, .unset, .unset, .unset, .unset, .unset, .unset, .unset, .unset, .unset] [(.ref b15), (.ref b15)])) _
    refine XS.iconst X15.here hx rfl (hb hby at_56) ?_
    show Steps p.tables e below (T15.setTop (mkF m 57 #[.val (.int fl), .val (.int ja), .val (.int jb), .val (.int jc), .val (.int j0), .val (.int j1), .val (.int ev0), .val (.int ev1), .val (.int pv0), .val (.int pv1), .val (.double (FP.l2d (own_nz ja))), .second, .val (.double (FP.i2d jb)), .second, .val (.double (FP.l2d (own_nz jc))), .second, .unset, .unset, .unset, .unset, .unset, .unset, .unset, .unset, .unset, .unset, .unset, .unset, .unset] [(.int (2 : Int32)), (.ref b15), (.ref b15)])) _
    refine XS.iconst X15.here hx rfl (hb hby at_57) ?_
    show Steps p.tables e below (T15.setTop (mkF m 58 #[.val (.int fl), .val (.int ja), .val (.int jb), .val (.int jc), .val (.int j0), .val (.int j1), .val (.int ev0), .val (.int ev1), .val (.int pv0), .val (.int pv1), .val (.double (FP.l2d (own_nz ja))), .second, .val (.double (FP.i2d jb)), .second, .val (.double (FP.l2d (own_nz jc))), .second, .unset, .unset, .unset, .unset, .unset, .unset, .unset, .unset, .unset, .unset, .unset, .unset, .unset] [(.int (2 : Int32)), (.int (2 : Int32)), (.ref b15), (.ref b15)])) _
    exact kt
  obtain ⟨_, _, ⟨T17, L17, k17, n17⟩, -, X17, ⟨Lc17, hQ17, l17, y17, z17⟩, st17⟩ := X15.specialBack hx (y := (⟨"com/example/sondage/sondage/inference/Factorization", "<init>", "(II)V"⟩ : MethodName)) rfl hown (mvT hZ (hw _ (List.mem_of_getElem? (i := 3) rfl))) (mvT hZ (hw _ (List.mem_of_getElem? (i := 4) rfl))) (mvT hZ (hw _ (List.mem_of_getElem? (i := 5) rfl))) (by decide) (backOf (W := 1) (rm1 l Z aa hw [] b15 _ _ _ _ _ _ _ _ h15 n0 Z15 gn15 A15 F_unknownCount_b15 F_determined_b15 F_reducedBy_b15 F_multipliers_b15 F_lengths_b15 F_pivotEquation_b15 F_pivotUnknowns_b15 F_pivotCoefficients_b15 F_pivotCount_b15 F_reductions_b15) hZ (hw _ (List.mem_of_getElem? (i := 5) rfl)) (hw _ (List.mem_of_getElem? (i := 2) rfl)) (by decide) (by decide)) (g := (mkF m 58 #[.val (.int fl), .val (.int ja), .val (.int jb), .val (.int jc), .val (.int j0), .val (.int j1), .val (.int ev0), .val (.int ev1), .val (.int pv0), .val (.int pv1), .val (.double (FP.l2d (own_nz ja))), .second, .val (.double (FP.i2d jb)), .second, .val (.double (FP.l2d (own_nz jc))), .second, .unset, .unset, .unset, .unset, .unset, .unset, .unset, .unset, .unset, .unset, .unset, .unset, .unset] [(.int (2 : Int32)), (.int (2 : Int32)), (.ref b15), (.ref b15)])) rfl (by rw [hml]; rfl) (Steps.refl _) (a := b15) (argsL := [(.int (2 : Int32)), (.int (2 : Int32))]) (rest := [(.ref b15)]) (lenOf pd_PIIQV rfl) rfl (by show 2 * 0 + _ ≤ _; exact Nat.le_of_eq rfl) (hb hby at_58) (fun _ _ => ⟨rfl, e15, (by decide : 1 + 7 ≤ _), (by decide : 10 + 14 ≤ _)⟩)
  dsimp only [Pt.U, Pt.locs, Pt.cells, Pt.slots] at X17 l17 y17 z17 st17 hQ17
  subst l17 y17 z17
  obtain ⟨rfl, N17q, KV17, rb17, ml17, ln17, pe17, pu17, pc17, kr17, km17, kl17, ke17, ku17, kc17, SP17, FA17⟩ := hQ17
  have N17 := Fr.app N0 N17q
  have K17 : ∀ t, Steps p.tables e below (T17.setTop (mkF m 61 #[.val (.int fl), .val (.int ja), .val (.int jb), .val (.int jc), .val (.int j0), .val (.int j1), .val (.int ev0), .val (.int ev1), .val (.int pv0), .val (.int pv1), .val (.double (FP.l2d (own_nz ja))), .second, .val (.double (FP.i2d jb)), .second, .val (.double (FP.l2d (own_nz jc))), .second, .unset, .unset, .unset, .unset, .unset, .unset, .unset, .unset, .unset, .unset, .unset, .unset, .unset] [(.ref b15)])) t → Steps p.tables e below G0 t := fun t kt => K16 t (st17.trans kt)
  have Z17 : n0 ≤ T17.heap.size := Nat.le_trans Z15 KV17.1
  obtain ⟨fc17_0, fc17_1, fc17_2, fc17_3, fc17_4, fc17_5, fc17_6, fc17_7, fc17_8, fc17_9, fc17_10, fc17_11, fc17_12, fc17_13, fc17_14, fc17_15⟩ := id FA17
  obtain ⟨fg17_0, fg17_1, fg17_2, fg17_3, fg17_4, fg17_5, fg17_6, ne_b15_rb17, ne_b15_ml17, ne_b15_ln17, ne_b15_pe17, ne_b15_pu17, ne_b15_pc17, ne_rb17_ml17, ne_rb17_ln17, ne_rb17_pe17, ne_rb17_pu17, ne_rb17_pc17, ne_ml17_ln17, ne_ml17_pe17, ne_ml17_pu17, ne_ml17_pc17, ne_ln17_pe17, ne_ln17_pu17, ne_ln17_pc17, ne_pe17_pu17, ne_pe17_pc17, ne_pu17_pc17, ov17_0, ov17_1, ov17_2, ov17_3⟩ := id SP17
  have K18 : ∀ t, Steps p.tables e below (T17.setTop (mkF m 64 #[.val (.int fl), .val (.int ja), .val (.int jb), .val (.int jc), .val (.int j0), .val (.int j1), .val (.int ev0), .val (.int ev1), .val (.int pv0), .val (.int pv1), .val (.double (FP.l2d (own_nz ja))), .second, .val (.double (FP.i2d jb)), .second, .val (.double (FP.l2d (own_nz jc))), .second, .val (.ref b15), .unset, .unset, .unset, .unset, .unset, .unset, .unset, .unset, .unset, .unset, .unset, .unset] [(.int (2 : Int32))])) t → Steps p.tables e below G0 t := by
    intro t kt
    refine K17 t ?_
    refine XS.astore X17.here hx rfl (hb hby at_61) rfl rfl (l' := #[.val (.int fl), .val (.int ja), .val (.int jb), .val (.int jc), .val (.int j0), .val (.int j1), .val (.int ev0), .val (.int ev1), .val (.int pv0), .val (.int pv1), .val (.double (FP.l2d (own_nz ja))), .second, .val (.double (FP.i2d jb)), .second, .val (.double (FP.l2d (own_nz jc))), .second, .val (.ref b15), .unset, .unset, .unset, .unset, .unset, .unset, .unset, .unset, .unset, .unset, .unset, .unset]) rfl ?_
    show Steps p.tables e below (T17.setTop (mkF m 63 #[.val (.int fl), .val (.int ja), .val (.int jb), .val (.int jc), .val (.int j0), .val (.int j1), .val (.int ev0), .val (.int ev1), .val (.int pv0), .val (.int pv1), .val (.double (FP.l2d (own_nz ja))), .second, .val (.double (FP.i2d jb)), .second, .val (.double (FP.l2d (own_nz jc))), .second, .val (.ref b15), .unset, .unset, .unset, .unset, .unset, .unset, .unset, .unset, .unset, .unset, .unset, .unset] [])) _
    refine XS.iconst X17.here hx rfl (hb hby at_63) ?_
    show Steps p.tables e below (T17.setTop (mkF m 64 #[.val (.int fl), .val (.int ja), .val (.int jb), .val (.int jc), .val (.int j0), .val (.int j1), .val (.int ev0), .val (.int ev1), .val (.int pv0), .val (.int pv1), .val (.double (FP.l2d (own_nz ja))), .second, .val (.double (FP.i2d jb)), .second, .val (.double (FP.l2d (own_nz jc))), .second, .val (.ref b15), .unset, .unset, .unset, .unset, .unset, .unset, .unset, .unset, .unset, .unset, .unset, .unset] [(.int (2 : Int32))])) _
    exact kt
  obtain ⟨T19, h19, k19, X19, e19, E19, A19, EA19, st19⟩ := newPE X17 hx hZ (hw _ (List.mem_of_getElem? (i := 22) rfl)) (rfl : T17.heap = _) (g := (mkF m 64 #[.val (.int fl), .val (.int ja), .val (.int jb), .val (.int jc), .val (.int j0), .val (.int j1), .val (.int ev0), .val (.int ev1), .val (.int pv0), .val (.int pv1), .val (.double (FP.l2d (own_nz ja))), .second, .val (.double (FP.i2d jb)), .second, .val (.double (FP.l2d (own_nz jc))), .second, .val (.ref b15), .unset, .unset, .unset, .unset, .unset, .unset, .unset, .unset, .unset, .unset, .unset, .unset] [(.int (2 : Int32))])) rfl (hb hby at_64) rfl (by decide) (cap := 2) (by decide) (by decide) (by decide) (by decide) (ad := "[I") (by decide)
  obtain ⟨b19, g19⟩ : ∃ z, z = T17.heap.size := ⟨_, rfl⟩
  rw [← g19] at A19 EA19 st19
  have V19 := Arv.new A19 (by decide)
  have gn19 : n0 ≤ b19 := Nat.le_trans Z17 (Nat.le_of_eq g19.symm)
  have Z19 : n0 ≤ h19.size := Nat.le_trans Z17 E19.1
  have K19 : ∀ t, Steps p.tables e below (T19.setTop (mkF m 66 #[.val (.int fl), .val (.int ja), .val (.int jb), .val (.int jc), .val (.int j0), .val (.int j1), .val (.int ev0), .val (.int ev1), .val (.int pv0), .val (.int pv1), .val (.double (FP.l2d (own_nz ja))), .second, .val (.double (FP.i2d jb)), .second, .val (.double (FP.l2d (own_nz jc))), .second, .val (.ref b15), .unset, .unset, .unset, .unset, .unset, .unset, .unset, .unset, .unset, .unset, .unset, .unset] [(.ref b19)])) t → Steps p.tables e below G0 t := fun t kt => K18 t (st19 _ kt)
  have ne_b15_b19 : b15 ≠ b19 := Nat.ne_of_lt (Nat.lt_of_lt_of_le (fc17_0).lt (Nat.le_of_eq g19.symm))
  have ne_rb17_b19 : rb17 ≠ b19 := Nat.ne_of_lt (Nat.lt_of_lt_of_le (fc17_10).lt (Nat.le_of_eq g19.symm))
  have ne_ml17_b19 : ml17 ≠ b19 := Nat.ne_of_lt (Nat.lt_of_lt_of_le (fc17_11).lt (Nat.le_of_eq g19.symm))
  have ne_ln17_b19 : ln17 ≠ b19 := Nat.ne_of_lt (Nat.lt_of_lt_of_le (fc17_12).lt (Nat.le_of_eq g19.symm))
  have ne_pe17_b19 : pe17 ≠ b19 := Nat.ne_of_lt (Nat.lt_of_lt_of_le (fc17_13).lt (Nat.le_of_eq g19.symm))
  have ne_pu17_b19 : pu17 ≠ b19 := Nat.ne_of_lt (Nat.lt_of_lt_of_le (fc17_14).lt (Nat.le_of_eq g19.symm))
  have ne_pc17_b19 : pc17 ≠ b19 := Nat.ne_of_lt (Nat.lt_of_lt_of_le (fc17_15).lt (Nat.le_of_eq g19.symm))
  have VL19 : Arv Z h19 b19 k19 .int (2 : Int32) [(.int (0 : Int32)), (.int (0 : Int32))] (.int (0 : Int32)) := V19.pad (pad_rep [] (.int (0 : Int32)) 2)
  have K20 : ∀ t, Steps p.tables e below (T19.setTop (mkF m 70 #[.val (.int fl), .val (.int ja), .val (.int jb), .val (.int jc), .val (.int j0), .val (.int j1), .val (.int ev0), .val (.int ev1), .val (.int pv0), .val (.int pv1), .val (.double (FP.l2d (own_nz ja))), .second, .val (.double (FP.i2d jb)), .second, .val (.double (FP.l2d (own_nz jc))), .second, .val (.ref b15), .unset, .unset, .unset, .unset, .unset, .unset, .unset, .unset, .unset, .unset, .unset, .unset] [(.int pv0), (.int (0 : Int32)), (.ref b19), (.ref b19)])) t → Steps p.tables e below G0 t := by
    intro t kt
    refine K19 t ?_
    refine XS.dup X19.here hx rfl (hb hby at_66) rfl rfl ?_
    show Steps p.tables e below (T19.setTop (mkF m 67 #[.val (.int fl), .val (.int ja), .val (.int jb), .val (.int jc), .val (.int j0), .val (.int j1), .val (.int ev0), .val (.int ev1), .val (.int pv0), .val (.int pv1), .val (.double (FP.l2d (own_nz ja))), .second, .val (.double (FP.i2d jb)), .second, .val (.double (FP.l2d (own_nz jc))), .second, .val (.ref b15), .unset, .unset, .unset, .unset, .unset, .unset, .unset, .unset, .unset, .unset, .unset, .unset] [(.ref b19), (.ref b19)])) _
    refine XS.iconst X19.here hx rfl (hb hby at_67) ?_
    show Steps p.tables e below (T19.setTop (mkF m 68 #[.val (.int fl), .val (.int ja), .val (.int jb), .val (.int jc), .val (.int j0), .val (.int j1), .val (.int ev0), .val (.int ev1), .val (.int pv0), .val (.int pv1), .val (.double (FP.l2d (own_nz ja))), .second, .val (.double (FP.i2d jb)), .second, .val (.double (FP.l2d (own_nz jc))), .second, .val (.ref b15), .unset, .unset, .unset, .unset, .unset, .unset, .unset, .unset, .unset, .unset, .unset, .unset] [(.int (0 : Int32)), (.ref b19), (.ref b19)])) _
    refine XS.iload X19.here hx rfl (hb hby at_68) rfl ?_
    show Steps p.tables e below (T19.setTop (mkF m 70 #[.val (.int fl), .val (.int ja), .val (.int jb), .val (.int jc), .val (.int j0), .val (.int j1), .val (.int ev0), .val (.int ev1), .val (.int pv0), .val (.int pv1), .val (.double (FP.l2d (own_nz ja))), .second, .val (.double (FP.i2d jb)), .second, .val (.double (FP.l2d (own_nz jc))), .second, .val (.ref b15), .unset, .unset, .unset, .unset, .unset, .unset, .unset, .unset, .unset, .unset, .unset, .unset] [(.int pv0), (.int (0 : Int32)), (.ref b19), (.ref b19)])) _
    exact kt
  obtain ⟨cl21, Ar21, qq21, S21, M21, H21, GG21⟩ := id VL19
  have hin21 : ¬ ((0 : Int32) < 0 ∨ cl21.slots.size ≤ ((0 : Int32)).toNatClampNeg) := inb_of S21 ⟨by decide, by decide⟩
  obtain ⟨T22, h22, X22, e22, W22, st22⟩ := stI X19 hx hZ e19 Ar21 (j := (0 : Int32)) hin21 (g := (mkF m 70 #[.val (.int fl), .val (.int ja), .val (.int jb), .val (.int jc), .val (.int j0), .val (.int j1), .val (.int ev0), .val (.int ev1), .val (.int pv0), .val (.int pv1), .val (.double (FP.l2d (own_nz ja))), .second, .val (.double (FP.i2d jb)), .second, .val (.double (FP.l2d (own_nz jc))), .second, .val (.ref b15), .unset, .unset, .unset, .unset, .unset, .unset, .unset, .unset, .unset, .unset, .unset, .unset] [(.int pv0), (.int (0 : Int32)), (.ref b19), (.ref b19)])) rfl rfl (hb hby at_70)
  have K22 : ∀ t, Steps p.tables e below (T22.setTop (mkF m 71 #[.val (.int fl), .val (.int ja), .val (.int jb), .val (.int jc), .val (.int j0), .val (.int j1), .val (.int ev0), .val (.int ev1), .val (.int pv0), .val (.int pv1), .val (.double (FP.l2d (own_nz ja))), .second, .val (.double (FP.i2d jb)), .second, .val (.double (FP.l2d (own_nz jc))), .second, .val (.ref b15), .unset, .unset, .unset, .unset, .unset, .unset, .unset, .unset, .unset, .unset, .unset, .unset] [(.ref b19)])) t → Steps p.tables e below G0 t := fun t kt => K20 t (st22 _ kt)
  have Z22 : n0 ≤ h22.size := Nat.le_trans Z19 (Keep.of_wr W22).1
  have VL22 : Arv Z h22 b19 k19 .int (2 : Int32) [(.int pv0), (.int (0 : Int32))] (.int (0 : Int32)) := Arv.set Ar21 qq21 S21 M21 H21 GG21 rfl W22 0 rfl (Nat.le_of_ble_eq_true rfl)
  have N22 := Fr.snoc X22 N17 gn19
  have K23 : ∀ t, Steps p.tables e below (T22.setTop (mkF m 75 #[.val (.int fl), .val (.int ja), .val (.int jb), .val (.int jc), .val (.int j0), .val (.int j1), .val (.int ev0), .val (.int ev1), .val (.int pv0), .val (.int pv1), .val (.double (FP.l2d (own_nz ja))), .second, .val (.double (FP.i2d jb)), .second, .val (.double (FP.l2d (own_nz jc))), .second, .val (.ref b15), .unset, .unset, .unset, .unset, .unset, .unset, .unset, .unset, .unset, .unset, .unset, .unset] [(.int pv1), (.int (1 : Int32)), (.ref b19), (.ref b19)])) t → Steps p.tables e below G0 t := by
    intro t kt
    refine K22 t ?_
    refine XS.dup X22.here hx rfl (hb hby at_71) rfl rfl ?_
    show Steps p.tables e below (T22.setTop (mkF m 72 #[.val (.int fl), .val (.int ja), .val (.int jb), .val (.int jc), .val (.int j0), .val (.int j1), .val (.int ev0), .val (.int ev1), .val (.int pv0), .val (.int pv1), .val (.double (FP.l2d (own_nz ja))), .second, .val (.double (FP.i2d jb)), .second, .val (.double (FP.l2d (own_nz jc))), .second, .val (.ref b15), .unset, .unset, .unset, .unset, .unset, .unset, .unset, .unset, .unset, .unset, .unset, .unset] [(.ref b19), (.ref b19)])) _
    refine XS.iconst X22.here hx rfl (hb hby at_72) ?_
    show Steps p.tables e below (T22.setTop (mkF m 73 #[.val (.int fl), .val (.int ja), .val (.int jb), .val (.int jc), .val (.int j0), .val (.int j1), .val (.int ev0), .val (.int ev1), .val (.int pv0), .val (.int pv1), .val (.double (FP.l2d (own_nz ja))), .second, .val (.double (FP.i2d jb)), .second, .val (.double (FP.l2d (own_nz jc))), .second, .val (.ref b15), .unset, .unset, .unset, .unset, .unset, .unset, .unset, .unset, .unset, .unset, .unset, .unset] [(.int (1 : Int32)), (.ref b19), (.ref b19)])) _
    refine XS.iload X22.here hx rfl (hb hby at_73) rfl ?_
    show Steps p.tables e below (T22.setTop (mkF m 75 #[.val (.int fl), .val (.int ja), .val (.int jb), .val (.int jc), .val (.int j0), .val (.int j1), .val (.int ev0), .val (.int ev1), .val (.int pv0), .val (.int pv1), .val (.double (FP.l2d (own_nz ja))), .second, .val (.double (FP.i2d jb)), .second, .val (.double (FP.l2d (own_nz jc))), .second, .val (.ref b15), .unset, .unset, .unset, .unset, .unset, .unset, .unset, .unset, .unset, .unset, .unset, .unset] [(.int pv1), (.int (1 : Int32)), (.ref b19), (.ref b19)])) _
    exact kt
  obtain ⟨cl24, Ar24, qq24, S24, M24, H24, GG24⟩ := id VL22
  have hin24 : ¬ ((1 : Int32) < 0 ∨ cl24.slots.size ≤ ((1 : Int32)).toNatClampNeg) := inb_of S24 ⟨by decide, by decide⟩
  obtain ⟨T25, h25, X25, e25, W25, st25⟩ := stI X22 hx hZ e22 Ar24 (j := (1 : Int32)) hin24 (g := (mkF m 75 #[.val (.int fl), .val (.int ja), .val (.int jb), .val (.int jc), .val (.int j0), .val (.int j1), .val (.int ev0), .val (.int ev1), .val (.int pv0), .val (.int pv1), .val (.double (FP.l2d (own_nz ja))), .second, .val (.double (FP.i2d jb)), .second, .val (.double (FP.l2d (own_nz jc))), .second, .val (.ref b15), .unset, .unset, .unset, .unset, .unset, .unset, .unset, .unset, .unset, .unset, .unset, .unset] [(.int pv1), (.int (1 : Int32)), (.ref b19), (.ref b19)])) rfl rfl (hb hby at_75)
  have K25 : ∀ t, Steps p.tables e below (T25.setTop (mkF m 76 #[.val (.int fl), .val (.int ja), .val (.int jb), .val (.int jc), .val (.int j0), .val (.int j1), .val (.int ev0), .val (.int ev1), .val (.int pv0), .val (.int pv1), .val (.double (FP.l2d (own_nz ja))), .second, .val (.double (FP.i2d jb)), .second, .val (.double (FP.l2d (own_nz jc))), .second, .val (.ref b15), .unset, .unset, .unset, .unset, .unset, .unset, .unset, .unset, .unset, .unset, .unset, .unset] [(.ref b19)])) t → Steps p.tables e below G0 t := fun t kt => K23 t (st25 _ kt)
  have Z25 : n0 ≤ h25.size := Nat.le_trans Z22 (Keep.of_wr W25).1
  have VL25 : Arv Z h25 b19 k19 .int (2 : Int32) [(.int pv0), (.int pv1)] (.int (0 : Int32)) := Arv.set Ar24 qq24 S24 M24 H24 GG24 rfl W25 1 rfl (Nat.le_of_ble_eq_true rfl)
  have N25 := Fr.snoc X25 N22 gn19
  have K26 : ∀ t, Steps p.tables e below (T25.setTop (mkF m 79 #[.val (.int fl), .val (.int ja), .val (.int jb), .val (.int jc), .val (.int j0), .val (.int j1), .val (.int ev0), .val (.int ev1), .val (.int pv0), .val (.int pv1), .val (.double (FP.l2d (own_nz ja))), .second, .val (.double (FP.i2d jb)), .second, .val (.double (FP.l2d (own_nz jc))), .second, .val (.ref b15), .val (.ref b19), .unset, .unset, .unset, .unset, .unset, .unset, .unset, .unset, .unset, .unset, .unset] [(.int (2 : Int32))])) t → Steps p.tables e below G0 t := by
    intro t kt
    refine K25 t ?_
    refine XS.astore X25.here hx rfl (hb hby at_76) rfl rfl (l' := #[.val (.int fl), .val (.int ja), .val (.int jb), .val (.int jc), .val (.int j0), .val (.int j1), .val (.int ev0), .val (.int ev1), .val (.int pv0), .val (.int pv1), .val (.double (FP.l2d (own_nz ja))), .second, .val (.double (FP.i2d jb)), .second, .val (.double (FP.l2d (own_nz jc))), .second, .val (.ref b15), .val (.ref b19), .unset, .unset, .unset, .unset, .unset, .unset, .unset, .unset, .unset, .unset, .unset]) rfl ?_
    show Steps p.tables e below (T25.setTop (mkF m 78 #[.val (.int fl), .val (.int ja), .val (.int jb), .val (.int jc), .val (.int j0), .val (.int j1), .val (.int ev0), .val (.int ev1), .val (.int pv0), .val (.int pv1), .val (.double (FP.l2d (own_nz ja))), .second, .val (.double (FP.i2d jb)), .second, .val (.double (FP.l2d (own_nz jc))), .second, .val (.ref b15), .val (.ref b19), .unset, .unset, .unset, .unset, .unset, .unset, .unset, .unset, .unset, .unset, .unset] [])) _
    refine XS.iconst X25.here hx rfl (hb hby at_78) ?_
    show Steps p.tables e below (T25.setTop (mkF m 79 #[.val (.int fl), .val (.int ja), .val (.int jb), .val (.int jc), .val (.int j0), .val (.int j1), .val (.int ev0), .val (.int ev1), .val (.int pv0), .val (.int pv1), .val (.double (FP.l2d (own_nz ja))), .second, .val (.double (FP.i2d jb)), .second, .val (.double (FP.l2d (own_nz jc))), .second, .val (.ref b15), .val (.ref b19), .unset, .unset, .unset, .unset, .unset, .unset, .unset, .unset, .unset, .unset, .unset] [(.int (2 : Int32))])) _
    exact kt
  have f27 := (((fc17_0.ext E19).wr W22).wr W25)
  have f28 := (((fc17_10.ext E19).other W22 ne_rb17_b19).other W25 ne_rb17_b19)
  have f29 := (((fc17_11.ext E19).other W22 ne_ml17_b19).other W25 ne_ml17_b19)
  have f30 := (((fc17_12.ext E19).other W22 ne_ln17_b19).other W25 ne_ln17_b19)
  have f31 := (((fc17_13.ext E19).other W22 ne_pe17_b19).other W25 ne_pe17_b19)
  have f32 := (((fc17_14.ext E19).other W22 ne_pu17_b19).other W25 ne_pu17_b19)
  have f33 := (((fc17_15.ext E19).other W22 ne_pc17_b19).other W25 ne_pc17_b19)
  obtain ⟨T34, h34, k34, X34, e34, E34, A34, EA34, st34⟩ := newPE X25 hx hZ (hw _ (List.mem_of_getElem? (i := 35) rfl)) e25 (g := (mkF m 79 #[.val (.int fl), .val (.int ja), .val (.int jb), .val (.int jc), .val (.int j0), .val (.int j1), .val (.int ev0), .val (.int ev1), .val (.int pv0), .val (.int pv1), .val (.double (FP.l2d (own_nz ja))), .second, .val (.double (FP.i2d jb)), .second, .val (.double (FP.l2d (own_nz jc))), .second, .val (.ref b15), .val (.ref b19), .unset, .unset, .unset, .unset, .unset, .unset, .unset, .unset, .unset, .unset, .unset] [(.int (2 : Int32))])) rfl (hb hby at_79) rfl (by decide) (cap := 2) (by decide) (by decide) (by decide) (by decide) (ad := "[D") (by decide)
  obtain ⟨b34, g34⟩ : ∃ z, z = h25.size := ⟨_, rfl⟩
  rw [← g34] at A34 EA34 st34
  have V34 := Arv.new A34 (by decide)
  have gn34 : n0 ≤ b34 := Nat.le_trans Z25 (Nat.le_of_eq g34.symm)
  have Z34 : n0 ≤ h34.size := Nat.le_trans Z25 E34.1
  have K34 : ∀ t, Steps p.tables e below (T34.setTop (mkF m 81 #[.val (.int fl), .val (.int ja), .val (.int jb), .val (.int jc), .val (.int j0), .val (.int j1), .val (.int ev0), .val (.int ev1), .val (.int pv0), .val (.int pv1), .val (.double (FP.l2d (own_nz ja))), .second, .val (.double (FP.i2d jb)), .second, .val (.double (FP.l2d (own_nz jc))), .second, .val (.ref b15), .val (.ref b19), .unset, .unset, .unset, .unset, .unset, .unset, .unset, .unset, .unset, .unset, .unset] [(.ref b34)])) t → Steps p.tables e below G0 t := fun t kt => K26 t (st34 _ kt)
  have ne_b15_b34 : b15 ≠ b34 := Nat.ne_of_lt (Nat.lt_of_lt_of_le (f27).lt (Nat.le_of_eq g34.symm))
  have ne_rb17_b34 : rb17 ≠ b34 := Nat.ne_of_lt (Nat.lt_of_lt_of_le (f28).lt (Nat.le_of_eq g34.symm))
  have ne_ml17_b34 : ml17 ≠ b34 := Nat.ne_of_lt (Nat.lt_of_lt_of_le (f29).lt (Nat.le_of_eq g34.symm))
  have ne_ln17_b34 : ln17 ≠ b34 := Nat.ne_of_lt (Nat.lt_of_lt_of_le (f30).lt (Nat.le_of_eq g34.symm))
  have ne_pe17_b34 : pe17 ≠ b34 := Nat.ne_of_lt (Nat.lt_of_lt_of_le (f31).lt (Nat.le_of_eq g34.symm))
  have ne_pu17_b34 : pu17 ≠ b34 := Nat.ne_of_lt (Nat.lt_of_lt_of_le (f32).lt (Nat.le_of_eq g34.symm))
  have ne_pc17_b34 : pc17 ≠ b34 := Nat.ne_of_lt (Nat.lt_of_lt_of_le (f33).lt (Nat.le_of_eq g34.symm))
  have ne_b19_b34 : b19 ≠ b34 := Nat.ne_of_lt (Nat.lt_of_lt_of_le (VL25).lt (Nat.le_of_eq g34.symm))
  have VL34 : Arv Z h34 b34 k34 .double (2 : Int32) [(.double 0), (.double 0)] (.double 0) := V34.pad (pad_rep [] (.double 0) 2)
  have K35 : ∀ t, Steps p.tables e below (T34.setTop (mkF m 85 #[.val (.int fl), .val (.int ja), .val (.int jb), .val (.int jc), .val (.int j0), .val (.int j1), .val (.int ev0), .val (.int ev1), .val (.int pv0), .val (.int pv1), .val (.double (FP.l2d (own_nz ja))), .second, .val (.double (FP.i2d jb)), .second, .val (.double (FP.l2d (own_nz jc))), .second, .val (.ref b15), .val (.ref b19), .unset, .unset, .unset, .unset, .unset, .unset, .unset, .unset, .unset, .unset, .unset] [(.double (FP.l2d (own_nz ja))), (.int (0 : Int32)), (.ref b34), (.ref b34)])) t → Steps p.tables e below G0 t := by
    intro t kt
    refine K34 t ?_
    refine XS.dup X34.here hx rfl (hb hby at_81) rfl rfl ?_
    show Steps p.tables e below (T34.setTop (mkF m 82 #[.val (.int fl), .val (.int ja), .val (.int jb), .val (.int jc), .val (.int j0), .val (.int j1), .val (.int ev0), .val (.int ev1), .val (.int pv0), .val (.int pv1), .val (.double (FP.l2d (own_nz ja))), .second, .val (.double (FP.i2d jb)), .second, .val (.double (FP.l2d (own_nz jc))), .second, .val (.ref b15), .val (.ref b19), .unset, .unset, .unset, .unset, .unset, .unset, .unset, .unset, .unset, .unset, .unset] [(.ref b34), (.ref b34)])) _
    refine XS.iconst X34.here hx rfl (hb hby at_82) ?_
    show Steps p.tables e below (T34.setTop (mkF m 83 #[.val (.int fl), .val (.int ja), .val (.int jb), .val (.int jc), .val (.int j0), .val (.int j1), .val (.int ev0), .val (.int ev1), .val (.int pv0), .val (.int pv1), .val (.double (FP.l2d (own_nz ja))), .second, .val (.double (FP.i2d jb)), .second, .val (.double (FP.l2d (own_nz jc))), .second, .val (.ref b15), .val (.ref b19), .unset, .unset, .unset, .unset, .unset, .unset, .unset, .unset, .unset, .unset, .unset] [(.int (0 : Int32)), (.ref b34), (.ref b34)])) _
    refine XS.dload X34.here hx rfl (hb hby at_83) rfl ?_
    show Steps p.tables e below (T34.setTop (mkF m 85 #[.val (.int fl), .val (.int ja), .val (.int jb), .val (.int jc), .val (.int j0), .val (.int j1), .val (.int ev0), .val (.int ev1), .val (.int pv0), .val (.int pv1), .val (.double (FP.l2d (own_nz ja))), .second, .val (.double (FP.i2d jb)), .second, .val (.double (FP.l2d (own_nz jc))), .second, .val (.ref b15), .val (.ref b19), .unset, .unset, .unset, .unset, .unset, .unset, .unset, .unset, .unset, .unset, .unset] [(.double (FP.l2d (own_nz ja))), (.int (0 : Int32)), (.ref b34), (.ref b34)])) _
    exact kt
  obtain ⟨cl36, Ar36, qq36, S36, M36, H36, GG36⟩ := id VL34
  have hin36 : ¬ ((0 : Int32) < 0 ∨ cl36.slots.size ≤ ((0 : Int32)).toNatClampNeg) := inb_of S36 ⟨by decide, by decide⟩
  obtain ⟨T37, h37, X37, e37, W37, st37⟩ := stD X34 hx hZ e34 Ar36 (j := (0 : Int32)) hin36 (g := (mkF m 85 #[.val (.int fl), .val (.int ja), .val (.int jb), .val (.int jc), .val (.int j0), .val (.int j1), .val (.int ev0), .val (.int ev1), .val (.int pv0), .val (.int pv1), .val (.double (FP.l2d (own_nz ja))), .second, .val (.double (FP.i2d jb)), .second, .val (.double (FP.l2d (own_nz jc))), .second, .val (.ref b15), .val (.ref b19), .unset, .unset, .unset, .unset, .unset, .unset, .unset, .unset, .unset, .unset, .unset] [(.double (FP.l2d (own_nz ja))), (.int (0 : Int32)), (.ref b34), (.ref b34)])) rfl rfl (hb hby at_85)
  have K37 : ∀ t, Steps p.tables e below (T37.setTop (mkF m 86 #[.val (.int fl), .val (.int ja), .val (.int jb), .val (.int jc), .val (.int j0), .val (.int j1), .val (.int ev0), .val (.int ev1), .val (.int pv0), .val (.int pv1), .val (.double (FP.l2d (own_nz ja))), .second, .val (.double (FP.i2d jb)), .second, .val (.double (FP.l2d (own_nz jc))), .second, .val (.ref b15), .val (.ref b19), .unset, .unset, .unset, .unset, .unset, .unset, .unset, .unset, .unset, .unset, .unset] [(.ref b34)])) t → Steps p.tables e below G0 t := fun t kt => K35 t (st37 _ kt)
  have Z37 : n0 ≤ h37.size := Nat.le_trans Z34 (Keep.of_wr W37).1
  have VL37 : Arv Z h37 b34 k34 .double (2 : Int32) [(.double (FP.l2d (own_nz ja))), (.double 0)] (.double 0) := Arv.set Ar36 qq36 S36 M36 H36 GG36 rfl W37 0 rfl (Nat.le_of_ble_eq_true rfl)
  have N37 := Fr.snoc X37 N25 gn34
  have K38 : ∀ t, Steps p.tables e below (T37.setTop (mkF m 90 #[.val (.int fl), .val (.int ja), .val (.int jb), .val (.int jc), .val (.int j0), .val (.int j1), .val (.int ev0), .val (.int ev1), .val (.int pv0), .val (.int pv1), .val (.double (FP.l2d (own_nz ja))), .second, .val (.double (FP.i2d jb)), .second, .val (.double (FP.l2d (own_nz jc))), .second, .val (.ref b15), .val (.ref b19), .unset, .unset, .unset, .unset, .unset, .unset, .unset, .unset, .unset, .unset, .unset] [(.double (FP.i2d jb)), (.int (1 : Int32)), (.ref b34), (.ref b34)])) t → Steps p.tables e below G0 t := by
    intro t kt
    refine K37 t ?_
    refine XS.dup X37.here hx rfl (hb hby at_86) rfl rfl ?_
    show Steps p.tables e below (T37.setTop (mkF m 87 #[.val (.int fl), .val (.int ja), .val (.int jb), .val (.int jc), .val (.int j0), .val (.int j1), .val (.int ev0), .val (.int ev1), .val (.int pv0), .val (.int pv1), .val (.double (FP.l2d (own_nz ja))), .second, .val (.double (FP.i2d jb)), .second, .val (.double (FP.l2d (own_nz jc))), .second, .val (.ref b15), .val (.ref b19), .unset, .unset, .unset, .unset, .unset, .unset, .unset, .unset, .unset, .unset, .unset] [(.ref b34), (.ref b34)])) _
    refine XS.iconst X37.here hx rfl (hb hby at_87) ?_
    show Steps p.tables e below (T37.setTop (mkF m 88 #[.val (.int fl), .val (.int ja), .val (.int jb), .val (.int jc), .val (.int j0), .val (.int j1), .val (.int ev0), .val (.int ev1), .val (.int pv0), .val (.int pv1), .val (.double (FP.l2d (own_nz ja))), .second, .val (.double (FP.i2d jb)), .second, .val (.double (FP.l2d (own_nz jc))), .second, .val (.ref b15), .val (.ref b19), .unset, .unset, .unset, .unset, .unset, .unset, .unset, .unset, .unset, .unset, .unset] [(.int (1 : Int32)), (.ref b34), (.ref b34)])) _
    refine XS.dload X37.here hx rfl (hb hby at_88) rfl ?_
    show Steps p.tables e below (T37.setTop (mkF m 90 #[.val (.int fl), .val (.int ja), .val (.int jb), .val (.int jc), .val (.int j0), .val (.int j1), .val (.int ev0), .val (.int ev1), .val (.int pv0), .val (.int pv1), .val (.double (FP.l2d (own_nz ja))), .second, .val (.double (FP.i2d jb)), .second, .val (.double (FP.l2d (own_nz jc))), .second, .val (.ref b15), .val (.ref b19), .unset, .unset, .unset, .unset, .unset, .unset, .unset, .unset, .unset, .unset, .unset] [(.double (FP.i2d jb)), (.int (1 : Int32)), (.ref b34), (.ref b34)])) _
    exact kt
  obtain ⟨cl39, Ar39, qq39, S39, M39, H39, GG39⟩ := id VL37
  have hin39 : ¬ ((1 : Int32) < 0 ∨ cl39.slots.size ≤ ((1 : Int32)).toNatClampNeg) := inb_of S39 ⟨by decide, by decide⟩
  obtain ⟨T40, h40, X40, e40, W40, st40⟩ := stD X37 hx hZ e37 Ar39 (j := (1 : Int32)) hin39 (g := (mkF m 90 #[.val (.int fl), .val (.int ja), .val (.int jb), .val (.int jc), .val (.int j0), .val (.int j1), .val (.int ev0), .val (.int ev1), .val (.int pv0), .val (.int pv1), .val (.double (FP.l2d (own_nz ja))), .second, .val (.double (FP.i2d jb)), .second, .val (.double (FP.l2d (own_nz jc))), .second, .val (.ref b15), .val (.ref b19), .unset, .unset, .unset, .unset, .unset, .unset, .unset, .unset, .unset, .unset, .unset] [(.double (FP.i2d jb)), (.int (1 : Int32)), (.ref b34), (.ref b34)])) rfl rfl (hb hby at_90)
  have K40 : ∀ t, Steps p.tables e below (T40.setTop (mkF m 91 #[.val (.int fl), .val (.int ja), .val (.int jb), .val (.int jc), .val (.int j0), .val (.int j1), .val (.int ev0), .val (.int ev1), .val (.int pv0), .val (.int pv1), .val (.double (FP.l2d (own_nz ja))), .second, .val (.double (FP.i2d jb)), .second, .val (.double (FP.l2d (own_nz jc))), .second, .val (.ref b15), .val (.ref b19), .unset, .unset, .unset, .unset, .unset, .unset, .unset, .unset, .unset, .unset, .unset] [(.ref b34)])) t → Steps p.tables e below G0 t := fun t kt => K38 t (st40 _ kt)
  have Z40 : n0 ≤ h40.size := Nat.le_trans Z37 (Keep.of_wr W40).1
  have VL40 : Arv Z h40 b34 k34 .double (2 : Int32) [(.double (FP.l2d (own_nz ja))), (.double (FP.i2d jb))] (.double 0) := Arv.set Ar39 qq39 S39 M39 H39 GG39 rfl W40 1 rfl (Nat.le_of_ble_eq_true rfl)
  have N40 := Fr.snoc X40 N37 gn34
  have K41 : ∀ t, Steps p.tables e below (T40.setTop (mkF m 94 #[.val (.int fl), .val (.int ja), .val (.int jb), .val (.int jc), .val (.int j0), .val (.int j1), .val (.int ev0), .val (.int ev1), .val (.int pv0), .val (.int pv1), .val (.double (FP.l2d (own_nz ja))), .second, .val (.double (FP.i2d jb)), .second, .val (.double (FP.l2d (own_nz jc))), .second, .val (.ref b15), .val (.ref b19), .val (.ref b34), .unset, .unset, .unset, .unset, .unset, .unset, .unset, .unset, .unset, .unset] [(.int (1 : Int32))])) t → Steps p.tables e below G0 t := by
    intro t kt
    refine K40 t ?_
    refine XS.astore X40.here hx rfl (hb hby at_91) rfl rfl (l' := #[.val (.int fl), .val (.int ja), .val (.int jb), .val (.int jc), .val (.int j0), .val (.int j1), .val (.int ev0), .val (.int ev1), .val (.int pv0), .val (.int pv1), .val (.double (FP.l2d (own_nz ja))), .second, .val (.double (FP.i2d jb)), .second, .val (.double (FP.l2d (own_nz jc))), .second, .val (.ref b15), .val (.ref b19), .val (.ref b34), .unset, .unset, .unset, .unset, .unset, .unset, .unset, .unset, .unset, .unset]) rfl ?_
    show Steps p.tables e below (T40.setTop (mkF m 93 #[.val (.int fl), .val (.int ja), .val (.int jb), .val (.int jc), .val (.int j0), .val (.int j1), .val (.int ev0), .val (.int ev1), .val (.int pv0), .val (.int pv1), .val (.double (FP.l2d (own_nz ja))), .second, .val (.double (FP.i2d jb)), .second, .val (.double (FP.l2d (own_nz jc))), .second, .val (.ref b15), .val (.ref b19), .val (.ref b34), .unset, .unset, .unset, .unset, .unset, .unset, .unset, .unset, .unset, .unset] [])) _
    refine XS.iconst X40.here hx rfl (hb hby at_93) ?_
    show Steps p.tables e below (T40.setTop (mkF m 94 #[.val (.int fl), .val (.int ja), .val (.int jb), .val (.int jc), .val (.int j0), .val (.int j1), .val (.int ev0), .val (.int ev1), .val (.int pv0), .val (.int pv1), .val (.double (FP.l2d (own_nz ja))), .second, .val (.double (FP.i2d jb)), .second, .val (.double (FP.l2d (own_nz jc))), .second, .val (.ref b15), .val (.ref b19), .val (.ref b34), .unset, .unset, .unset, .unset, .unset, .unset, .unset, .unset, .unset, .unset] [(.int (1 : Int32))])) _
    exact kt
  have f42 := (((f27.ext E34).wr W37).wr W40)
  have f43 := (((f28.ext E34).other W37 ne_rb17_b34).other W40 ne_rb17_b34)
  have f44 := (((f29.ext E34).other W37 ne_ml17_b34).other W40 ne_ml17_b34)
  have f45 := (((f30.ext E34).other W37 ne_ln17_b34).other W40 ne_ln17_b34)
  have f46 := (((f31.ext E34).other W37 ne_pe17_b34).other W40 ne_pe17_b34)
  have f47 := (((f32.ext E34).other W37 ne_pu17_b34).other W40 ne_pu17_b34)
  have f48 := (((f33.ext E34).other W37 ne_pc17_b34).other W40 ne_pc17_b34)
  have f49 := (((VL25.ext E34).other W37 ne_b19_b34).other W40 ne_b19_b34)
  obtain ⟨T50, h50, k50, X50, e50, E50, A50, EA50, st50⟩ := newPE X40 hx hZ (hw _ (List.mem_of_getElem? (i := 22) rfl)) e40 (g := (mkF m 94 #[.val (.int fl), .val (.int ja), .val (.int jb), .val (.int jc), .val (.int j0), .val (.int j1), .val (.int ev0), .val (.int ev1), .val (.int pv0), .val (.int pv1), .val (.double (FP.l2d (own_nz ja))), .second, .val (.double (FP.i2d jb)), .second, .val (.double (FP.l2d (own_nz jc))), .second, .val (.ref b15), .val (.ref b19), .val (.ref b34), .unset, .unset, .unset, .unset, .unset, .unset, .unset, .unset, .unset, .unset] [(.int (1 : Int32))])) rfl (hb hby at_94) rfl (by decide) (cap := 1) (by decide) (by decide) (by decide) (by decide) (ad := "[I") (by decide)
  obtain ⟨b50, g50⟩ : ∃ z, z = h40.size := ⟨_, rfl⟩
  rw [← g50] at A50 EA50 st50
  have V50 := Arv.new A50 (by decide)
  have gn50 : n0 ≤ b50 := Nat.le_trans Z40 (Nat.le_of_eq g50.symm)
  have Z50 : n0 ≤ h50.size := Nat.le_trans Z40 E50.1
  have K50 : ∀ t, Steps p.tables e below (T50.setTop (mkF m 96 #[.val (.int fl), .val (.int ja), .val (.int jb), .val (.int jc), .val (.int j0), .val (.int j1), .val (.int ev0), .val (.int ev1), .val (.int pv0), .val (.int pv1), .val (.double (FP.l2d (own_nz ja))), .second, .val (.double (FP.i2d jb)), .second, .val (.double (FP.l2d (own_nz jc))), .second, .val (.ref b15), .val (.ref b19), .val (.ref b34), .unset, .unset, .unset, .unset, .unset, .unset, .unset, .unset, .unset, .unset] [(.ref b50)])) t → Steps p.tables e below G0 t := fun t kt => K41 t (st50 _ kt)
  have ne_b15_b50 : b15 ≠ b50 := Nat.ne_of_lt (Nat.lt_of_lt_of_le (f42).lt (Nat.le_of_eq g50.symm))
  have ne_rb17_b50 : rb17 ≠ b50 := Nat.ne_of_lt (Nat.lt_of_lt_of_le (f43).lt (Nat.le_of_eq g50.symm))
  have ne_ml17_b50 : ml17 ≠ b50 := Nat.ne_of_lt (Nat.lt_of_lt_of_le (f44).lt (Nat.le_of_eq g50.symm))
  have ne_ln17_b50 : ln17 ≠ b50 := Nat.ne_of_lt (Nat.lt_of_lt_of_le (f45).lt (Nat.le_of_eq g50.symm))
  have ne_pe17_b50 : pe17 ≠ b50 := Nat.ne_of_lt (Nat.lt_of_lt_of_le (f46).lt (Nat.le_of_eq g50.symm))
  have ne_pu17_b50 : pu17 ≠ b50 := Nat.ne_of_lt (Nat.lt_of_lt_of_le (f47).lt (Nat.le_of_eq g50.symm))
  have ne_pc17_b50 : pc17 ≠ b50 := Nat.ne_of_lt (Nat.lt_of_lt_of_le (f48).lt (Nat.le_of_eq g50.symm))
  have ne_b19_b50 : b19 ≠ b50 := Nat.ne_of_lt (Nat.lt_of_lt_of_le (f49).lt (Nat.le_of_eq g50.symm))
  have ne_b34_b50 : b34 ≠ b50 := Nat.ne_of_lt (Nat.lt_of_lt_of_le (VL40).lt (Nat.le_of_eq g50.symm))
  have VL50 : Arv Z h50 b50 k50 .int (1 : Int32) [(.int (0 : Int32))] (.int (0 : Int32)) := V50.pad (pad_rep [] (.int (0 : Int32)) 1)
  have K51 : ∀ t, Steps p.tables e below (T50.setTop (mkF m 100 #[.val (.int fl), .val (.int ja), .val (.int jb), .val (.int jc), .val (.int j0), .val (.int j1), .val (.int ev0), .val (.int ev1), .val (.int pv0), .val (.int pv1), .val (.double (FP.l2d (own_nz ja))), .second, .val (.double (FP.i2d jb)), .second, .val (.double (FP.l2d (own_nz jc))), .second, .val (.ref b15), .val (.ref b19), .val (.ref b34), .unset, .unset, .unset, .unset, .unset, .unset, .unset, .unset, .unset, .unset] [(.int pv1), (.int (0 : Int32)), (.ref b50), (.ref b50)])) t → Steps p.tables e below G0 t := by
    intro t kt
    refine K50 t ?_
    refine XS.dup X50.here hx rfl (hb hby at_96) rfl rfl ?_
    show Steps p.tables e below (T50.setTop (mkF m 97 #[.val (.int fl), .val (.int ja), .val (.int jb), .val (.int jc), .val (.int j0), .val (.int j1), .val (.int ev0), .val (.int ev1), .val (.int pv0), .val (.int pv1), .val (.double (FP.l2d (own_nz ja))), .second, .val (.double (FP.i2d jb)), .second, .val (.double (FP.l2d (own_nz jc))), .second, .val (.ref b15), .val (.ref b19), .val (.ref b34), .unset, .unset, .unset, .unset, .unset, .unset, .unset, .unset, .unset, .unset] [(.ref b50), (.ref b50)])) _
    refine XS.iconst X50.here hx rfl (hb hby at_97) ?_
    show Steps p.tables e below (T50.setTop (mkF m 98 #[.val (.int fl), .val (.int ja), .val (.int jb), .val (.int jc), .val (.int j0), .val (.int j1), .val (.int ev0), .val (.int ev1), .val (.int pv0), .val (.int pv1), .val (.double (FP.l2d (own_nz ja))), .second, .val (.double (FP.i2d jb)), .second, .val (.double (FP.l2d (own_nz jc))), .second, .val (.ref b15), .val (.ref b19), .val (.ref b34), .unset, .unset, .unset, .unset, .unset, .unset, .unset, .unset, .unset, .unset] [(.int (0 : Int32)), (.ref b50), (.ref b50)])) _
    refine XS.iload X50.here hx rfl (hb hby at_98) rfl ?_
    show Steps p.tables e below (T50.setTop (mkF m 100 #[.val (.int fl), .val (.int ja), .val (.int jb), .val (.int jc), .val (.int j0), .val (.int j1), .val (.int ev0), .val (.int ev1), .val (.int pv0), .val (.int pv1), .val (.double (FP.l2d (own_nz ja))), .second, .val (.double (FP.i2d jb)), .second, .val (.double (FP.l2d (own_nz jc))), .second, .val (.ref b15), .val (.ref b19), .val (.ref b34), .unset, .unset, .unset, .unset, .unset, .unset, .unset, .unset, .unset, .unset] [(.int pv1), (.int (0 : Int32)), (.ref b50), (.ref b50)])) _
    exact kt
  obtain ⟨cl52, Ar52, qq52, S52, M52, H52, GG52⟩ := id VL50
  have hin52 : ¬ ((0 : Int32) < 0 ∨ cl52.slots.size ≤ ((0 : Int32)).toNatClampNeg) := inb_of S52 ⟨by decide, by decide⟩
  obtain ⟨T53, h53, X53, e53, W53, st53⟩ := stI X50 hx hZ e50 Ar52 (j := (0 : Int32)) hin52 (g := (mkF m 100 #[.val (.int fl), .val (.int ja), .val (.int jb), .val (.int jc), .val (.int j0), .val (.int j1), .val (.int ev0), .val (.int ev1), .val (.int pv0), .val (.int pv1), .val (.double (FP.l2d (own_nz ja))), .second, .val (.double (FP.i2d jb)), .second, .val (.double (FP.l2d (own_nz jc))), .second, .val (.ref b15), .val (.ref b19), .val (.ref b34), .unset, .unset, .unset, .unset, .unset, .unset, .unset, .unset, .unset, .unset] [(.int pv1), (.int (0 : Int32)), (.ref b50), (.ref b50)])) rfl rfl (hb hby at_100)
  have K53 : ∀ t, Steps p.tables e below (T53.setTop (mkF m 101 #[.val (.int fl), .val (.int ja), .val (.int jb), .val (.int jc), .val (.int j0), .val (.int j1), .val (.int ev0), .val (.int ev1), .val (.int pv0), .val (.int pv1), .val (.double (FP.l2d (own_nz ja))), .second, .val (.double (FP.i2d jb)), .second, .val (.double (FP.l2d (own_nz jc))), .second, .val (.ref b15), .val (.ref b19), .val (.ref b34), .unset, .unset, .unset, .unset, .unset, .unset, .unset, .unset, .unset, .unset] [(.ref b50)])) t → Steps p.tables e below G0 t := fun t kt => K51 t (st53 _ kt)
  have Z53 : n0 ≤ h53.size := Nat.le_trans Z50 (Keep.of_wr W53).1
  have VL53 : Arv Z h53 b50 k50 .int (1 : Int32) [(.int pv1)] (.int (0 : Int32)) := Arv.set Ar52 qq52 S52 M52 H52 GG52 rfl W53 0 rfl (Nat.le_of_ble_eq_true rfl)
  have N53 := Fr.snoc X53 N40 gn50
  have K54 : ∀ t, Steps p.tables e below (T53.setTop (mkF m 104 #[.val (.int fl), .val (.int ja), .val (.int jb), .val (.int jc), .val (.int j0), .val (.int j1), .val (.int ev0), .val (.int ev1), .val (.int pv0), .val (.int pv1), .val (.double (FP.l2d (own_nz ja))), .second, .val (.double (FP.i2d jb)), .second, .val (.double (FP.l2d (own_nz jc))), .second, .val (.ref b15), .val (.ref b19), .val (.ref b34), .val (.ref b50), .unset, .unset, .unset, .unset, .unset, .unset, .unset, .unset, .unset] [(.int (1 : Int32))])) t → Steps p.tables e below G0 t := by
    intro t kt
    refine K53 t ?_
    refine XS.astore X53.here hx rfl (hb hby at_101) rfl rfl (l' := #[.val (.int fl), .val (.int ja), .val (.int jb), .val (.int jc), .val (.int j0), .val (.int j1), .val (.int ev0), .val (.int ev1), .val (.int pv0), .val (.int pv1), .val (.double (FP.l2d (own_nz ja))), .second, .val (.double (FP.i2d jb)), .second, .val (.double (FP.l2d (own_nz jc))), .second, .val (.ref b15), .val (.ref b19), .val (.ref b34), .val (.ref b50), .unset, .unset, .unset, .unset, .unset, .unset, .unset, .unset, .unset]) rfl ?_
    show Steps p.tables e below (T53.setTop (mkF m 103 #[.val (.int fl), .val (.int ja), .val (.int jb), .val (.int jc), .val (.int j0), .val (.int j1), .val (.int ev0), .val (.int ev1), .val (.int pv0), .val (.int pv1), .val (.double (FP.l2d (own_nz ja))), .second, .val (.double (FP.i2d jb)), .second, .val (.double (FP.l2d (own_nz jc))), .second, .val (.ref b15), .val (.ref b19), .val (.ref b34), .val (.ref b50), .unset, .unset, .unset, .unset, .unset, .unset, .unset, .unset, .unset] [])) _
    refine XS.iconst X53.here hx rfl (hb hby at_103) ?_
    show Steps p.tables e below (T53.setTop (mkF m 104 #[.val (.int fl), .val (.int ja), .val (.int jb), .val (.int jc), .val (.int j0), .val (.int j1), .val (.int ev0), .val (.int ev1), .val (.int pv0), .val (.int pv1), .val (.double (FP.l2d (own_nz ja))), .second, .val (.double (FP.i2d jb)), .second, .val (.double (FP.l2d (own_nz jc))), .second, .val (.ref b15), .val (.ref b19), .val (.ref b34), .val (.ref b50), .unset, .unset, .unset, .unset, .unset, .unset, .unset, .unset, .unset] [(.int (1 : Int32))])) _
    exact kt
  have f55 := ((f42.ext E50).wr W53)
  have f56 := ((f43.ext E50).other W53 ne_rb17_b50)
  have f57 := ((f44.ext E50).other W53 ne_ml17_b50)
  have f58 := ((f45.ext E50).other W53 ne_ln17_b50)
  have f59 := ((f46.ext E50).other W53 ne_pe17_b50)
  have f60 := ((f47.ext E50).other W53 ne_pu17_b50)
  have f61 := ((f48.ext E50).other W53 ne_pc17_b50)
  have f62 := ((f49.ext E50).other W53 ne_b19_b50)
  have f63 := ((VL40.ext E50).other W53 ne_b34_b50)
  obtain ⟨T64, h64, k64, X64, e64, E64, A64, EA64, st64⟩ := newPE X53 hx hZ (hw _ (List.mem_of_getElem? (i := 35) rfl)) e53 (g := (mkF m 104 #[.val (.int fl), .val (.int ja), .val (.int jb), .val (.int jc), .val (.int j0), .val (.int j1), .val (.int ev0), .val (.int ev1), .val (.int pv0), .val (.int pv1), .val (.double (FP.l2d (own_nz ja))), .second, .val (.double (FP.i2d jb)), .second, .val (.double (FP.l2d (own_nz jc))), .second, .val (.ref b15), .val (.ref b19), .val (.ref b34), .val (.ref b50), .unset, .unset, .unset, .unset, .unset, .unset, .unset, .unset, .unset] [(.int (1 : Int32))])) rfl (hb hby at_104) rfl (by decide) (cap := 1) (by decide) (by decide) (by decide) (by decide) (ad := "[D") (by decide)
  obtain ⟨b64, g64⟩ : ∃ z, z = h53.size := ⟨_, rfl⟩
  rw [← g64] at A64 EA64 st64
  have V64 := Arv.new A64 (by decide)
  have gn64 : n0 ≤ b64 := Nat.le_trans Z53 (Nat.le_of_eq g64.symm)
  have Z64 : n0 ≤ h64.size := Nat.le_trans Z53 E64.1
  have K64 : ∀ t, Steps p.tables e below (T64.setTop (mkF m 106 #[.val (.int fl), .val (.int ja), .val (.int jb), .val (.int jc), .val (.int j0), .val (.int j1), .val (.int ev0), .val (.int ev1), .val (.int pv0), .val (.int pv1), .val (.double (FP.l2d (own_nz ja))), .second, .val (.double (FP.i2d jb)), .second, .val (.double (FP.l2d (own_nz jc))), .second, .val (.ref b15), .val (.ref b19), .val (.ref b34), .val (.ref b50), .unset, .unset, .unset, .unset, .unset, .unset, .unset, .unset, .unset] [(.ref b64)])) t → Steps p.tables e below G0 t := fun t kt => K54 t (st64 _ kt)
  have ne_b15_b64 : b15 ≠ b64 := Nat.ne_of_lt (Nat.lt_of_lt_of_le (f55).lt (Nat.le_of_eq g64.symm))
  have ne_rb17_b64 : rb17 ≠ b64 := Nat.ne_of_lt (Nat.lt_of_lt_of_le (f56).lt (Nat.le_of_eq g64.symm))
  have ne_ml17_b64 : ml17 ≠ b64 := Nat.ne_of_lt (Nat.lt_of_lt_of_le (f57).lt (Nat.le_of_eq g64.symm))
  have ne_ln17_b64 : ln17 ≠ b64 := Nat.ne_of_lt (Nat.lt_of_lt_of_le (f58).lt (Nat.le_of_eq g64.symm))
  have ne_pe17_b64 : pe17 ≠ b64 := Nat.ne_of_lt (Nat.lt_of_lt_of_le (f59).lt (Nat.le_of_eq g64.symm))
  have ne_pu17_b64 : pu17 ≠ b64 := Nat.ne_of_lt (Nat.lt_of_lt_of_le (f60).lt (Nat.le_of_eq g64.symm))
  have ne_pc17_b64 : pc17 ≠ b64 := Nat.ne_of_lt (Nat.lt_of_lt_of_le (f61).lt (Nat.le_of_eq g64.symm))
  have ne_b19_b64 : b19 ≠ b64 := Nat.ne_of_lt (Nat.lt_of_lt_of_le (f62).lt (Nat.le_of_eq g64.symm))
  have ne_b34_b64 : b34 ≠ b64 := Nat.ne_of_lt (Nat.lt_of_lt_of_le (f63).lt (Nat.le_of_eq g64.symm))
  have ne_b50_b64 : b50 ≠ b64 := Nat.ne_of_lt (Nat.lt_of_lt_of_le (VL53).lt (Nat.le_of_eq g64.symm))
  have VL64 : Arv Z h64 b64 k64 .double (1 : Int32) [(.double 0)] (.double 0) := V64.pad (pad_rep [] (.double 0) 1)
  have K65 : ∀ t, Steps p.tables e below (T64.setTop (mkF m 110 #[.val (.int fl), .val (.int ja), .val (.int jb), .val (.int jc), .val (.int j0), .val (.int j1), .val (.int ev0), .val (.int ev1), .val (.int pv0), .val (.int pv1), .val (.double (FP.l2d (own_nz ja))), .second, .val (.double (FP.i2d jb)), .second, .val (.double (FP.l2d (own_nz jc))), .second, .val (.ref b15), .val (.ref b19), .val (.ref b34), .val (.ref b50), .unset, .unset, .unset, .unset, .unset, .unset, .unset, .unset, .unset] [(.double (FP.l2d (own_nz jc))), (.int (0 : Int32)), (.ref b64), (.ref b64)])) t → Steps p.tables e below G0 t := by
    intro t kt
    refine K64 t ?_
    refine XS.dup X64.here hx rfl (hb hby at_106) rfl rfl ?_
    show Steps p.tables e below (T64.setTop (mkF m 107 #[.val (.int fl), .val (.int ja), .val (.int jb), .val (.int jc), .val (.int j0), .val (.int j1), .val (.int ev0), .val (.int ev1), .val (.int pv0), .val (.int pv1), .val (.double (FP.l2d (own_nz ja))), .second, .val (.double (FP.i2d jb)), .second, .val (.double (FP.l2d (own_nz jc))), .second, .val (.ref b15), .val (.ref b19), .val (.ref b34), .val (.ref b50), .unset, .unset, .unset, .unset, .unset, .unset, .unset, .unset, .unset] [(.ref b64), (.ref b64)])) _
    refine XS.iconst X64.here hx rfl (hb hby at_107) ?_
    show Steps p.tables e below (T64.setTop (mkF m 108 #[.val (.int fl), .val (.int ja), .val (.int jb), .val (.int jc), .val (.int j0), .val (.int j1), .val (.int ev0), .val (.int ev1), .val (.int pv0), .val (.int pv1), .val (.double (FP.l2d (own_nz ja))), .second, .val (.double (FP.i2d jb)), .second, .val (.double (FP.l2d (own_nz jc))), .second, .val (.ref b15), .val (.ref b19), .val (.ref b34), .val (.ref b50), .unset, .unset, .unset, .unset, .unset, .unset, .unset, .unset, .unset] [(.int (0 : Int32)), (.ref b64), (.ref b64)])) _
    refine XS.dload X64.here hx rfl (hb hby at_108) rfl ?_
    show Steps p.tables e below (T64.setTop (mkF m 110 #[.val (.int fl), .val (.int ja), .val (.int jb), .val (.int jc), .val (.int j0), .val (.int j1), .val (.int ev0), .val (.int ev1), .val (.int pv0), .val (.int pv1), .val (.double (FP.l2d (own_nz ja))), .second, .val (.double (FP.i2d jb)), .second, .val (.double (FP.l2d (own_nz jc))), .second, .val (.ref b15), .val (.ref b19), .val (.ref b34), .val (.ref b50), .unset, .unset, .unset, .unset, .unset, .unset, .unset, .unset, .unset] [(.double (FP.l2d (own_nz jc))), (.int (0 : Int32)), (.ref b64), (.ref b64)])) _
    exact kt
  obtain ⟨cl66, Ar66, qq66, S66, M66, H66, GG66⟩ := id VL64
  have hin66 : ¬ ((0 : Int32) < 0 ∨ cl66.slots.size ≤ ((0 : Int32)).toNatClampNeg) := inb_of S66 ⟨by decide, by decide⟩
  obtain ⟨T67, h67, X67, e67, W67, st67⟩ := stD X64 hx hZ e64 Ar66 (j := (0 : Int32)) hin66 (g := (mkF m 110 #[.val (.int fl), .val (.int ja), .val (.int jb), .val (.int jc), .val (.int j0), .val (.int j1), .val (.int ev0), .val (.int ev1), .val (.int pv0), .val (.int pv1), .val (.double (FP.l2d (own_nz ja))), .second, .val (.double (FP.i2d jb)), .second, .val (.double (FP.l2d (own_nz jc))), .second, .val (.ref b15), .val (.ref b19), .val (.ref b34), .val (.ref b50), .unset, .unset, .unset, .unset, .unset, .unset, .unset, .unset, .unset] [(.double (FP.l2d (own_nz jc))), (.int (0 : Int32)), (.ref b64), (.ref b64)])) rfl rfl (hb hby at_110)
  have K67 : ∀ t, Steps p.tables e below (T67.setTop (mkF m 111 #[.val (.int fl), .val (.int ja), .val (.int jb), .val (.int jc), .val (.int j0), .val (.int j1), .val (.int ev0), .val (.int ev1), .val (.int pv0), .val (.int pv1), .val (.double (FP.l2d (own_nz ja))), .second, .val (.double (FP.i2d jb)), .second, .val (.double (FP.l2d (own_nz jc))), .second, .val (.ref b15), .val (.ref b19), .val (.ref b34), .val (.ref b50), .unset, .unset, .unset, .unset, .unset, .unset, .unset, .unset, .unset] [(.ref b64)])) t → Steps p.tables e below G0 t := fun t kt => K65 t (st67 _ kt)
  have Z67 : n0 ≤ h67.size := Nat.le_trans Z64 (Keep.of_wr W67).1
  have VL67 : Arv Z h67 b64 k64 .double (1 : Int32) [(.double (FP.l2d (own_nz jc)))] (.double 0) := Arv.set Ar66 qq66 S66 M66 H66 GG66 rfl W67 0 rfl (Nat.le_of_ble_eq_true rfl)
  have N67 := Fr.snoc X67 N53 gn64
  have K68 : ∀ t, Steps p.tables e below (T67.setTop (mkF m 114 #[.val (.int fl), .val (.int ja), .val (.int jb), .val (.int jc), .val (.int j0), .val (.int j1), .val (.int ev0), .val (.int ev1), .val (.int pv0), .val (.int pv1), .val (.double (FP.l2d (own_nz ja))), .second, .val (.double (FP.i2d jb)), .second, .val (.double (FP.l2d (own_nz jc))), .second, .val (.ref b15), .val (.ref b19), .val (.ref b34), .val (.ref b50), .val (.ref b64), .unset, .unset, .unset, .unset, .unset, .unset, .unset, .unset] [(.int (2 : Int32))])) t → Steps p.tables e below G0 t := by
    intro t kt
    refine K67 t ?_
    refine XS.astore X67.here hx rfl (hb hby at_111) rfl rfl (l' := #[.val (.int fl), .val (.int ja), .val (.int jb), .val (.int jc), .val (.int j0), .val (.int j1), .val (.int ev0), .val (.int ev1), .val (.int pv0), .val (.int pv1), .val (.double (FP.l2d (own_nz ja))), .second, .val (.double (FP.i2d jb)), .second, .val (.double (FP.l2d (own_nz jc))), .second, .val (.ref b15), .val (.ref b19), .val (.ref b34), .val (.ref b50), .val (.ref b64), .unset, .unset, .unset, .unset, .unset, .unset, .unset, .unset]) rfl ?_
    show Steps p.tables e below (T67.setTop (mkF m 113 #[.val (.int fl), .val (.int ja), .val (.int jb), .val (.int jc), .val (.int j0), .val (.int j1), .val (.int ev0), .val (.int ev1), .val (.int pv0), .val (.int pv1), .val (.double (FP.l2d (own_nz ja))), .second, .val (.double (FP.i2d jb)), .second, .val (.double (FP.l2d (own_nz jc))), .second, .val (.ref b15), .val (.ref b19), .val (.ref b34), .val (.ref b50), .val (.ref b64), .unset, .unset, .unset, .unset, .unset, .unset, .unset, .unset] [])) _
    refine XS.iconst X67.here hx rfl (hb hby at_113) ?_
    show Steps p.tables e below (T67.setTop (mkF m 114 #[.val (.int fl), .val (.int ja), .val (.int jb), .val (.int jc), .val (.int j0), .val (.int j1), .val (.int ev0), .val (.int ev1), .val (.int pv0), .val (.int pv1), .val (.double (FP.l2d (own_nz ja))), .second, .val (.double (FP.i2d jb)), .second, .val (.double (FP.l2d (own_nz jc))), .second, .val (.ref b15), .val (.ref b19), .val (.ref b34), .val (.ref b50), .val (.ref b64), .unset, .unset, .unset, .unset, .unset, .unset, .unset, .unset] [(.int (2 : Int32))])) _
    exact kt
  have f69 := ((f55.ext E64).wr W67)
  have f70 := ((f56.ext E64).other W67 ne_rb17_b64)
  have f71 := ((f57.ext E64).other W67 ne_ml17_b64)
  have f72 := ((f58.ext E64).other W67 ne_ln17_b64)
  have f73 := ((f59.ext E64).other W67 ne_pe17_b64)
  have f74 := ((f60.ext E64).other W67 ne_pu17_b64)
  have f75 := ((f61.ext E64).other W67 ne_pc17_b64)
  have f76 := ((f62.ext E64).other W67 ne_b19_b64)
  have f77 := ((f63.ext E64).other W67 ne_b34_b64)
  have f78 := ((VL53.ext E64).other W67 ne_b50_b64)
  obtain ⟨T79, h79, k79, X79, e79, E79, A79, EA79, st79⟩ := newPE X67 hx hZ (hw _ (List.mem_of_getElem? (i := 35) rfl)) e67 (g := (mkF m 114 #[.val (.int fl), .val (.int ja), .val (.int jb), .val (.int jc), .val (.int j0), .val (.int j1), .val (.int ev0), .val (.int ev1), .val (.int pv0), .val (.int pv1), .val (.double (FP.l2d (own_nz ja))), .second, .val (.double (FP.i2d jb)), .second, .val (.double (FP.l2d (own_nz jc))), .second, .val (.ref b15), .val (.ref b19), .val (.ref b34), .val (.ref b50), .val (.ref b64), .unset, .unset, .unset, .unset, .unset, .unset, .unset, .unset] [(.int (2 : Int32))])) rfl (hb hby at_114) rfl (by decide) (cap := 2) (by decide) (by decide) (by decide) (by decide) (ad := "[D") (by decide)
  obtain ⟨b79, g79⟩ : ∃ z, z = h67.size := ⟨_, rfl⟩
  rw [← g79] at A79 EA79 st79
  have V79 := Arv.new A79 (by decide)
  have gn79 : n0 ≤ b79 := Nat.le_trans Z67 (Nat.le_of_eq g79.symm)
  have Z79 : n0 ≤ h79.size := Nat.le_trans Z67 E79.1
  have K79 : ∀ t, Steps p.tables e below (T79.setTop (mkF m 116 #[.val (.int fl), .val (.int ja), .val (.int jb), .val (.int jc), .val (.int j0), .val (.int j1), .val (.int ev0), .val (.int ev1), .val (.int pv0), .val (.int pv1), .val (.double (FP.l2d (own_nz ja))), .second, .val (.double (FP.i2d jb)), .second, .val (.double (FP.l2d (own_nz jc))), .second, .val (.ref b15), .val (.ref b19), .val (.ref b34), .val (.ref b50), .val (.ref b64), .unset, .unset, .unset, .unset, .unset, .unset, .unset, .unset] [(.ref b79)])) t → Steps p.tables e below G0 t := fun t kt => K68 t (st79 _ kt)
  have ne_b15_b79 : b15 ≠ b79 := Nat.ne_of_lt (Nat.lt_of_lt_of_le (f69).lt (Nat.le_of_eq g79.symm))
  have ne_rb17_b79 : rb17 ≠ b79 := Nat.ne_of_lt (Nat.lt_of_lt_of_le (f70).lt (Nat.le_of_eq g79.symm))
  have ne_ml17_b79 : ml17 ≠ b79 := Nat.ne_of_lt (Nat.lt_of_lt_of_le (f71).lt (Nat.le_of_eq g79.symm))
  have ne_ln17_b79 : ln17 ≠ b79 := Nat.ne_of_lt (Nat.lt_of_lt_of_le (f72).lt (Nat.le_of_eq g79.symm))
  have ne_pe17_b79 : pe17 ≠ b79 := Nat.ne_of_lt (Nat.lt_of_lt_of_le (f73).lt (Nat.le_of_eq g79.symm))
  have ne_pu17_b79 : pu17 ≠ b79 := Nat.ne_of_lt (Nat.lt_of_lt_of_le (f74).lt (Nat.le_of_eq g79.symm))
  have ne_pc17_b79 : pc17 ≠ b79 := Nat.ne_of_lt (Nat.lt_of_lt_of_le (f75).lt (Nat.le_of_eq g79.symm))
  have ne_b19_b79 : b19 ≠ b79 := Nat.ne_of_lt (Nat.lt_of_lt_of_le (f76).lt (Nat.le_of_eq g79.symm))
  have ne_b34_b79 : b34 ≠ b79 := Nat.ne_of_lt (Nat.lt_of_lt_of_le (f77).lt (Nat.le_of_eq g79.symm))
  have ne_b50_b79 : b50 ≠ b79 := Nat.ne_of_lt (Nat.lt_of_lt_of_le (f78).lt (Nat.le_of_eq g79.symm))
  have ne_b64_b79 : b64 ≠ b79 := Nat.ne_of_lt (Nat.lt_of_lt_of_le (VL67).lt (Nat.le_of_eq g79.symm))
  have VL79 : Arv Z h79 b79 k79 .double (2 : Int32) [(.double 0), (.double 0)] (.double 0) := V79.pad (pad_rep [] (.double 0) 2)
  have K80 : ∀ t, Steps p.tables e below (T79.setTop (mkF m 124 #[.val (.int fl), .val (.int ja), .val (.int jb), .val (.int jc), .val (.int j0), .val (.int j1), .val (.int ev0), .val (.int ev1), .val (.int pv0), .val (.int pv1), .val (.double (FP.l2d (own_nz ja))), .second, .val (.double (FP.i2d jb)), .second, .val (.double (FP.l2d (own_nz jc))), .second, .val (.ref b15), .val (.ref b19), .val (.ref b34), .val (.ref b50), .val (.ref b64), .val (.ref b79), .unset, .unset, .unset, .unset, .unset, .unset, .unset] [(.double (FP.i2d j0)), (.int (0 : Int32)), (.ref b79)])) t → Steps p.tables e below G0 t := by
    intro t kt
    refine K79 t ?_
    refine XS.astore X79.here hx rfl (hb hby at_116) rfl rfl (l' := #[.val (.int fl), .val (.int ja), .val (.int jb), .val (.int jc), .val (.int j0), .val (.int j1), .val (.int ev0), .val (.int ev1), .val (.int pv0), .val (.int pv1), .val (.double (FP.l2d (own_nz ja))), .second, .val (.double (FP.i2d jb)), .second, .val (.double (FP.l2d (own_nz jc))), .second, .val (.ref b15), .val (.ref b19), .val (.ref b34), .val (.ref b50), .val (.ref b64), .val (.ref b79), .unset, .unset, .unset, .unset, .unset, .unset, .unset]) rfl ?_
    show Steps p.tables e below (T79.setTop (mkF m 118 #[.val (.int fl), .val (.int ja), .val (.int jb), .val (.int jc), .val (.int j0), .val (.int j1), .val (.int ev0), .val (.int ev1), .val (.int pv0), .val (.int pv1), .val (.double (FP.l2d (own_nz ja))), .second, .val (.double (FP.i2d jb)), .second, .val (.double (FP.l2d (own_nz jc))), .second, .val (.ref b15), .val (.ref b19), .val (.ref b34), .val (.ref b50), .val (.ref b64), .val (.ref b79), .unset, .unset, .unset, .unset, .unset, .unset, .unset] [])) _
    refine XS.aload X79.here hx rfl (hb hby at_118) rfl rfl ?_
    show Steps p.tables e below (T79.setTop (mkF m 120 #[.val (.int fl), .val (.int ja), .val (.int jb), .val (.int jc), .val (.int j0), .val (.int j1), .val (.int ev0), .val (.int ev1), .val (.int pv0), .val (.int pv1), .val (.double (FP.l2d (own_nz ja))), .second, .val (.double (FP.i2d jb)), .second, .val (.double (FP.l2d (own_nz jc))), .second, .val (.ref b15), .val (.ref b19), .val (.ref b34), .val (.ref b50), .val (.ref b64), .val (.ref b79), .unset, .unset, .unset, .unset, .unset, .unset, .unset] [(.ref b79)])) _
    refine XS.iconst X79.here hx rfl (hb hby at_120) ?_
    show Steps p.tables e below (T79.setTop (mkF m 121 #[.val (.int fl), .val (.int ja), .val (.int jb), .val (.int jc), .val (.int j0), .val (.int j1), .val (.int ev0), .val (.int ev1), .val (.int pv0), .val (.int pv1), .val (.double (FP.l2d (own_nz ja))), .second, .val (.double (FP.i2d jb)), .second, .val (.double (FP.l2d (own_nz jc))), .second, .val (.ref b15), .val (.ref b19), .val (.ref b34), .val (.ref b50), .val (.ref b64), .val (.ref b79), .unset, .unset, .unset, .unset, .unset, .unset, .unset] [(.int (0 : Int32)), (.ref b79)])) _
    refine XS.iload X79.here hx rfl (hb hby at_121) rfl ?_
    show Steps p.tables e below (T79.setTop (mkF m 123 #[.val (.int fl), .val (.int ja), .val (.int jb), .val (.int jc), .val (.int j0), .val (.int j1), .val (.int ev0), .val (.int ev1), .val (.int pv0), .val (.int pv1), .val (.double (FP.l2d (own_nz ja))), .second, .val (.double (FP.i2d jb)), .second, .val (.double (FP.l2d (own_nz jc))), .second, .val (.ref b15), .val (.ref b19), .val (.ref b34), .val (.ref b50), .val (.ref b64), .val (.ref b79), .unset, .unset, .unset, .unset, .unset, .unset, .unset] [(.int j0), (.int (0 : Int32)), (.ref b79)])) _
    refine XS.i2dS X79.here hx rfl (hb hby at_123) rfl rfl ?_
    show Steps p.tables e below (T79.setTop (mkF m 124 #[.val (.int fl), .val (.int ja), .val (.int jb), .val (.int jc), .val (.int j0), .val (.int j1), .val (.int ev0), .val (.int ev1), .val (.int pv0), .val (.int pv1), .val (.double (FP.l2d (own_nz ja))), .second, .val (.double (FP.i2d jb)), .second, .val (.double (FP.l2d (own_nz jc))), .second, .val (.ref b15), .val (.ref b19), .val (.ref b34), .val (.ref b50), .val (.ref b64), .val (.ref b79), .unset, .unset, .unset, .unset, .unset, .unset, .unset] [(.double (FP.i2d j0)), (.int (0 : Int32)), (.ref b79)])) _
    exact kt
  obtain ⟨cl81, Ar81, qq81, S81, M81, H81, GG81⟩ := id VL79
  have hin81 : ¬ ((0 : Int32) < 0 ∨ cl81.slots.size ≤ ((0 : Int32)).toNatClampNeg) := inb_of S81 ⟨by decide, by decide⟩
  obtain ⟨T82, h82, X82, e82, W82, st82⟩ := stD X79 hx hZ e79 Ar81 (j := (0 : Int32)) hin81 (g := (mkF m 124 #[.val (.int fl), .val (.int ja), .val (.int jb), .val (.int jc), .val (.int j0), .val (.int j1), .val (.int ev0), .val (.int ev1), .val (.int pv0), .val (.int pv1), .val (.double (FP.l2d (own_nz ja))), .second, .val (.double (FP.i2d jb)), .second, .val (.double (FP.l2d (own_nz jc))), .second, .val (.ref b15), .val (.ref b19), .val (.ref b34), .val (.ref b50), .val (.ref b64), .val (.ref b79), .unset, .unset, .unset, .unset, .unset, .unset, .unset] [(.double (FP.i2d j0)), (.int (0 : Int32)), (.ref b79)])) rfl rfl (hb hby at_124)
  have K82 : ∀ t, Steps p.tables e below (T82.setTop (mkF m 125 #[.val (.int fl), .val (.int ja), .val (.int jb), .val (.int jc), .val (.int j0), .val (.int j1), .val (.int ev0), .val (.int ev1), .val (.int pv0), .val (.int pv1), .val (.double (FP.l2d (own_nz ja))), .second, .val (.double (FP.i2d jb)), .second, .val (.double (FP.l2d (own_nz jc))), .second, .val (.ref b15), .val (.ref b19), .val (.ref b34), .val (.ref b50), .val (.ref b64), .val (.ref b79), .unset, .unset, .unset, .unset, .unset, .unset, .unset] [])) t → Steps p.tables e below G0 t := fun t kt => K80 t (st82 _ kt)
  have Z82 : n0 ≤ h82.size := Nat.le_trans Z79 (Keep.of_wr W82).1
  have VL82 : Arv Z h82 b79 k79 .double (2 : Int32) [(.double (FP.i2d j0)), (.double 0)] (.double 0) := Arv.set Ar81 qq81 S81 M81 H81 GG81 rfl W82 0 rfl (Nat.le_of_ble_eq_true rfl)
  have N82 := Fr.snoc X82 N67 gn79
  have K83 : ∀ t, Steps p.tables e below (T82.setTop (mkF m 131 #[.val (.int fl), .val (.int ja), .val (.int jb), .val (.int jc), .val (.int j0), .val (.int j1), .val (.int ev0), .val (.int ev1), .val (.int pv0), .val (.int pv1), .val (.double (FP.l2d (own_nz ja))), .second, .val (.double (FP.i2d jb)), .second, .val (.double (FP.l2d (own_nz jc))), .second, .val (.ref b15), .val (.ref b19), .val (.ref b34), .val (.ref b50), .val (.ref b64), .val (.ref b79), .unset, .unset, .unset, .unset, .unset, .unset, .unset] [(.double (FP.i2d j1)), (.int (1 : Int32)), (.ref b79)])) t → Steps p.tables e below G0 t := by
    intro t kt
    refine K82 t ?_
    refine XS.aload X82.here hx rfl (hb hby at_125) rfl rfl ?_
    show Steps p.tables e below (T82.setTop (mkF m 127 #[.val (.int fl), .val (.int ja), .val (.int jb), .val (.int jc), .val (.int j0), .val (.int j1), .val (.int ev0), .val (.int ev1), .val (.int pv0), .val (.int pv1), .val (.double (FP.l2d (own_nz ja))), .second, .val (.double (FP.i2d jb)), .second, .val (.double (FP.l2d (own_nz jc))), .second, .val (.ref b15), .val (.ref b19), .val (.ref b34), .val (.ref b50), .val (.ref b64), .val (.ref b79), .unset, .unset, .unset, .unset, .unset, .unset, .unset] [(.ref b79)])) _
    refine XS.iconst X82.here hx rfl (hb hby at_127) ?_
    show Steps p.tables e below (T82.setTop (mkF m 128 #[.val (.int fl), .val (.int ja), .val (.int jb), .val (.int jc), .val (.int j0), .val (.int j1), .val (.int ev0), .val (.int ev1), .val (.int pv0), .val (.int pv1), .val (.double (FP.l2d (own_nz ja))), .second, .val (.double (FP.i2d jb)), .second, .val (.double (FP.l2d (own_nz jc))), .second, .val (.ref b15), .val (.ref b19), .val (.ref b34), .val (.ref b50), .val (.ref b64), .val (.ref b79), .unset, .unset, .unset, .unset, .unset, .unset, .unset] [(.int (1 : Int32)), (.ref b79)])) _
    refine XS.iload X82.here hx rfl (hb hby at_128) rfl ?_
    show Steps p.tables e below (T82.setTop (mkF m 130 #[.val (.int fl), .val (.int ja), .val (.int jb), .val (.int jc), .val (.int j0), .val (.int j1), .val (.int ev0), .val (.int ev1), .val (.int pv0), .val (.int pv1), .val (.double (FP.l2d (own_nz ja))), .second, .val (.double (FP.i2d jb)), .second, .val (.double (FP.l2d (own_nz jc))), .second, .val (.ref b15), .val (.ref b19), .val (.ref b34), .val (.ref b50), .val (.ref b64), .val (.ref b79), .unset, .unset, .unset, .unset, .unset, .unset, .unset] [(.int j1), (.int (1 : Int32)), (.ref b79)])) _
    refine XS.i2dS X82.here hx rfl (hb hby at_130) rfl rfl ?_
    show Steps p.tables e below (T82.setTop (mkF m 131 #[.val (.int fl), .val (.int ja), .val (.int jb), .val (.int jc), .val (.int j0), .val (.int j1), .val (.int ev0), .val (.int ev1), .val (.int pv0), .val (.int pv1), .val (.double (FP.l2d (own_nz ja))), .second, .val (.double (FP.i2d jb)), .second, .val (.double (FP.l2d (own_nz jc))), .second, .val (.ref b15), .val (.ref b19), .val (.ref b34), .val (.ref b50), .val (.ref b64), .val (.ref b79), .unset, .unset, .unset, .unset, .unset, .unset, .unset] [(.double (FP.i2d j1)), (.int (1 : Int32)), (.ref b79)])) _
    exact kt
  obtain ⟨cl84, Ar84, qq84, S84, M84, H84, GG84⟩ := id VL82
  have hin84 : ¬ ((1 : Int32) < 0 ∨ cl84.slots.size ≤ ((1 : Int32)).toNatClampNeg) := inb_of S84 ⟨by decide, by decide⟩
  obtain ⟨T85, h85, X85, e85, W85, st85⟩ := stD X82 hx hZ e82 Ar84 (j := (1 : Int32)) hin84 (g := (mkF m 131 #[.val (.int fl), .val (.int ja), .val (.int jb), .val (.int jc), .val (.int j0), .val (.int j1), .val (.int ev0), .val (.int ev1), .val (.int pv0), .val (.int pv1), .val (.double (FP.l2d (own_nz ja))), .second, .val (.double (FP.i2d jb)), .second, .val (.double (FP.l2d (own_nz jc))), .second, .val (.ref b15), .val (.ref b19), .val (.ref b34), .val (.ref b50), .val (.ref b64), .val (.ref b79), .unset, .unset, .unset, .unset, .unset, .unset, .unset] [(.double (FP.i2d j1)), (.int (1 : Int32)), (.ref b79)])) rfl rfl (hb hby at_131)
  have K85 : ∀ t, Steps p.tables e below (T85.setTop (mkF m 132 #[.val (.int fl), .val (.int ja), .val (.int jb), .val (.int jc), .val (.int j0), .val (.int j1), .val (.int ev0), .val (.int ev1), .val (.int pv0), .val (.int pv1), .val (.double (FP.l2d (own_nz ja))), .second, .val (.double (FP.i2d jb)), .second, .val (.double (FP.l2d (own_nz jc))), .second, .val (.ref b15), .val (.ref b19), .val (.ref b34), .val (.ref b50), .val (.ref b64), .val (.ref b79), .unset, .unset, .unset, .unset, .unset, .unset, .unset] [])) t → Steps p.tables e below G0 t := fun t kt => K83 t (st85 _ kt)
  have Z85 : n0 ≤ h85.size := Nat.le_trans Z82 (Keep.of_wr W85).1
  have VL85 : Arv Z h85 b79 k79 .double (2 : Int32) [(.double (FP.i2d j0)), (.double (FP.i2d j1))] (.double 0) := Arv.set Ar84 qq84 S84 M84 H84 GG84 rfl W85 1 rfl (Nat.le_of_ble_eq_true rfl)
  have N85 := Fr.snoc X85 N82 gn79
  have K86 : ∀ t, Steps p.tables e below (T85.setTop (mkF m 140 #[.val (.int fl), .val (.int ja), .val (.int jb), .val (.int jc), .val (.int j0), .val (.int j1), .val (.int ev0), .val (.int ev1), .val (.int pv0), .val (.int pv1), .val (.double (FP.l2d (own_nz ja))), .second, .val (.double (FP.i2d jb)), .second, .val (.double (FP.l2d (own_nz jc))), .second, .val (.ref b15), .val (.ref b19), .val (.ref b34), .val (.ref b50), .val (.ref b64), .val (.ref b79), .unset, .unset, .unset, .unset, .unset, .unset, .unset] [(.ref b34), (.ref b19), (.int ev0), (.ref b15)])) t → Steps p.tables e below G0 t := by
    intro t kt
    refine K85 t ?_
    refine XS.aload X85.here hx rfl (hb hby at_132) rfl rfl ?_
    show Steps p.tables e below (T85.setTop (mkF m 134 #[.val (.int fl), .val (.int ja), .val (.int jb), .val (.int jc), .val (.int j0), .val (.int j1), .val (.int ev0), .val (.int ev1), .val (.int pv0), .val (.int pv1), .val (.double (FP.l2d (own_nz ja))), .second, .val (.double (FP.i2d jb)), .second, .val (.double (FP.l2d (own_nz jc))), .second, .val (.ref b15), .val (.ref b19), .val (.ref b34), .val (.ref b50), .val (.ref b64), .val (.ref b79), .unset, .unset, .unset, .unset, .unset, .unset, .unset] [(.ref b15)])) _
    refine XS.iload X85.here hx rfl (hb hby at_134) rfl ?_
    show Steps p.tables e below (T85.setTop (mkF m 136 #[.val (.int fl), .val (.int ja), .val (.int jb), .val (.int jc), .val (.int j0), .val (.int j1), .val (.int ev0), .val (.int ev1), .val (.int pv0), .val (.int pv1), .val (.double (FP.l2d (own_nz ja))), .second, .val (.double (FP.i2d jb)), .second, .val (.double (FP.l2d (own_nz jc))), .second, .val (.ref b15), .val (.ref b19), .val (.ref b34), .val (.ref b50), .val (.ref b64), .val (.ref b79), .unset, .unset, .unset, .unset, .unset, .unset, .unset] [(.int ev0), (.ref b15)])) _
    refine XS.aload X85.here hx rfl (hb hby at_136) rfl rfl ?_
    show Steps p.tables e below (T85.setTop (mkF m 138 #[.val (.int fl), .val (.int ja), .val (.int jb), .val (.int jc), .val (.int j0), .val (.int j1), .val (.int ev0), .val (.int ev1), .val (.int pv0), .val (.int pv1), .val (.double (FP.l2d (own_nz ja))), .second, .val (.double (FP.i2d jb)), .second, .val (.double (FP.l2d (own_nz jc))), .second, .val (.ref b15), .val (.ref b19), .val (.ref b34), .val (.ref b50), .val (.ref b64), .val (.ref b79), .unset, .unset, .unset, .unset, .unset, .unset, .unset] [(.ref b19), (.int ev0), (.ref b15)])) _
    refine XS.aload X85.here hx rfl (hb hby at_138) rfl rfl ?_
    show Steps p.tables e below (T85.setTop (mkF m 140 #[.val (.int fl), .val (.int ja), .val (.int jb), .val (.int jc), .val (.int j0), .val (.int j1), .val (.int ev0), .val (.int ev1), .val (.int pv0), .val (.int pv1), .val (.double (FP.l2d (own_nz ja))), .second, .val (.double (FP.i2d jb)), .second, .val (.double (FP.l2d (own_nz jc))), .second, .val (.ref b15), .val (.ref b19), .val (.ref b34), .val (.ref b50), .val (.ref b64), .val (.ref b79), .unset, .unset, .unset, .unset, .unset, .unset, .unset] [(.ref b34), (.ref b19), (.int ev0), (.ref b15)])) _
    exact kt
  have f87 := (((f69.ext E79).wr W82).wr W85)
  have f88 := (((((((((((((fc17_1.ext E19).other W22 (Or.inl ne_b15_b19)).other W25 (Or.inl ne_b15_b19)).ext E34).other W37 (Or.inl ne_b15_b34)).other W40 (Or.inl ne_b15_b34)).ext E50).other W53 (Or.inl ne_b15_b50)).ext E64).other W67 (Or.inl ne_b15_b64)).ext E79).other W82 (Or.inl ne_b15_b79)).other W85 (Or.inl ne_b15_b79))
  have f89 := (((((((((((((fc17_2.ext E19).other W22 (Or.inl ne_b15_b19)).other W25 (Or.inl ne_b15_b19)).ext E34).other W37 (Or.inl ne_b15_b34)).other W40 (Or.inl ne_b15_b34)).ext E50).other W53 (Or.inl ne_b15_b50)).ext E64).other W67 (Or.inl ne_b15_b64)).ext E79).other W82 (Or.inl ne_b15_b79)).other W85 (Or.inl ne_b15_b79))
  have f90 := (((((((((((((fc17_3.ext E19).other W22 (Or.inl ne_b15_b19)).other W25 (Or.inl ne_b15_b19)).ext E34).other W37 (Or.inl ne_b15_b34)).other W40 (Or.inl ne_b15_b34)).ext E50).other W53 (Or.inl ne_b15_b50)).ext E64).other W67 (Or.inl ne_b15_b64)).ext E79).other W82 (Or.inl ne_b15_b79)).other W85 (Or.inl ne_b15_b79))
  have f91 := (((((((((((((fc17_4.ext E19).other W22 (Or.inl ne_b15_b19)).other W25 (Or.inl ne_b15_b19)).ext E34).other W37 (Or.inl ne_b15_b34)).other W40 (Or.inl ne_b15_b34)).ext E50).other W53 (Or.inl ne_b15_b50)).ext E64).other W67 (Or.inl ne_b15_b64)).ext E79).other W82 (Or.inl ne_b15_b79)).other W85 (Or.inl ne_b15_b79))
  have f92 := (((((((((((((fc17_5.ext E19).other W22 (Or.inl ne_b15_b19)).other W25 (Or.inl ne_b15_b19)).ext E34).other W37 (Or.inl ne_b15_b34)).other W40 (Or.inl ne_b15_b34)).ext E50).other W53 (Or.inl ne_b15_b50)).ext E64).other W67 (Or.inl ne_b15_b64)).ext E79).other W82 (Or.inl ne_b15_b79)).other W85 (Or.inl ne_b15_b79))
  have f93 := (((((((((((((fc17_6.ext E19).other W22 (Or.inl ne_b15_b19)).other W25 (Or.inl ne_b15_b19)).ext E34).other W37 (Or.inl ne_b15_b34)).other W40 (Or.inl ne_b15_b34)).ext E50).other W53 (Or.inl ne_b15_b50)).ext E64).other W67 (Or.inl ne_b15_b64)).ext E79).other W82 (Or.inl ne_b15_b79)).other W85 (Or.inl ne_b15_b79))
  have f94 := (((((((((((((fc17_7.ext E19).other W22 (Or.inl ne_b15_b19)).other W25 (Or.inl ne_b15_b19)).ext E34).other W37 (Or.inl ne_b15_b34)).other W40 (Or.inl ne_b15_b34)).ext E50).other W53 (Or.inl ne_b15_b50)).ext E64).other W67 (Or.inl ne_b15_b64)).ext E79).other W82 (Or.inl ne_b15_b79)).other W85 (Or.inl ne_b15_b79))
  have f95 := (((((((((((((fc17_8.ext E19).other W22 (Or.inl ne_b15_b19)).other W25 (Or.inl ne_b15_b19)).ext E34).other W37 (Or.inl ne_b15_b34)).other W40 (Or.inl ne_b15_b34)).ext E50).other W53 (Or.inl ne_b15_b50)).ext E64).other W67 (Or.inl ne_b15_b64)).ext E79).other W82 (Or.inl ne_b15_b79)).other W85 (Or.inl ne_b15_b79))
  have f96 := (((((((((((((fc17_9.ext E19).other W22 (Or.inl ne_b15_b19)).other W25 (Or.inl ne_b15_b19)).ext E34).other W37 (Or.inl ne_b15_b34)).other W40 (Or.inl ne_b15_b34)).ext E50).other W53 (Or.inl ne_b15_b50)).ext E64).other W67 (Or.inl ne_b15_b64)).ext E79).other W82 (Or.inl ne_b15_b79)).other W85 (Or.inl ne_b15_b79))
  have f97 := (((f70.ext E79).other W82 ne_rb17_b79).other W85 ne_rb17_b79)
  have f98 := (((f71.ext E79).other W82 ne_ml17_b79).other W85 ne_ml17_b79)
  have f99 := (((f72.ext E79).other W82 ne_ln17_b79).other W85 ne_ln17_b79)
  have f100 := (((f73.ext E79).other W82 ne_pe17_b79).other W85 ne_pe17_b79)
  have f101 := (((f74.ext E79).other W82 ne_pu17_b79).other W85 ne_pu17_b79)
  have f102 := (((f75.ext E79).other W82 ne_pc17_b79).other W85 ne_pc17_b79)
  have FAx103 : own_Fac Z h85 b15 rb17 ml17 ln17 pe17 pu17 pc17 kr17 km17 kl17 ke17 ku17 kc17 (2 : Int32) (0 : Int32) (0 : Int64) [.null, .null] [.null, .null] [(.int (0 : Int32)), (.int (0 : Int32))] [(.int (0 : Int32)), (.int (0 : Int32))] [.null, .null] [.null, .null] := ⟨f87, f88, f89, f90, f91, f92, f93, f94, f95, f96, f97, f98, f99, f100, f101, f102⟩
  have f104 := ((((((((((((EA19.wr W22).wr W25).ext E34).wr W37).wr W40).ext E50).wr W53).ext E64).wr W67).ext E79).wr W82).wr W85)
  have f105 := (((((((((EA34.wr W37).wr W40).ext E50).wr W53).ext E64).wr W67).ext E79).wr W82).wr W85)
  obtain ⟨cq106, kq106, q106a, q106b, q106c⟩ := isOf hZ e85 f87
  obtain ⟨_, _, ⟨T107, L107, k107, n107⟩, -, X107, ⟨Lc107, hQ107, l107, y107, z107⟩, st107⟩ := X85.virtualBack hx (y := (⟨"com/example/sondage/sondage/inference/Factorization", "pivot", "(I[I[D)I"⟩ : MethodName)) (z := (⟨"com/example/sondage/sondage/inference/Factorization", "pivot", "(I[I[D)I"⟩ : MethodName)) hown (mvT hZ (hw _ (List.mem_of_getElem? (i := 36) rfl))) (mvT hZ (hw _ (List.mem_of_getElem? (i := 37) rfl))) (notFace_of_selects (args := #[]) (mvT hZ (hw _ (List.mem_of_getElem? (i := 39) rfl)))) (mvT hZ (hw _ (List.mem_of_getElem? (i := 39) rfl))) (mvT hZ (hw _ (List.mem_of_getElem? (i := 38) rfl))) (by decide) (backOf (W := 0) (rm4_0 l Z aa hw [] (b15) (ev0) (b19) (b34) rb17 ml17 ln17 pe17 pu17 pc17 kr17 km17 kl17 ke17 ku17 kc17 (0 : Int64) [.null, .null] [.null, .null] [(.int (0 : Int32)), (.int (0 : Int32))] (.int (0 : Int32)) (.int (0 : Int32)) .null .null .null .null h85 n0 Z85 SP17 FAx103 f104 f105) hZ (hw _ (List.mem_of_getElem? (i := 40) rfl)) (hw _ (List.mem_of_getElem? (i := 2) rfl)) (by decide) (by decide)) q106a q106c (g := (mkF m 140 #[.val (.int fl), .val (.int ja), .val (.int jb), .val (.int jc), .val (.int j0), .val (.int j1), .val (.int ev0), .val (.int ev1), .val (.int pv0), .val (.int pv1), .val (.double (FP.l2d (own_nz ja))), .second, .val (.double (FP.i2d jb)), .second, .val (.double (FP.l2d (own_nz jc))), .second, .val (.ref b15), .val (.ref b19), .val (.ref b34), .val (.ref b50), .val (.ref b64), .val (.ref b79), .unset, .unset, .unset, .unset, .unset, .unset, .unset] [(.ref b34), (.ref b19), (.int ev0), (.ref b15)])) rfl (by rw [hml]; rfl) (Steps.refl _) (argsL := [(.int ev0), (.ref b19), (.ref b34)]) (rest := []) (lenOf pd_PI_I_DQI rfl) rfl (by show 2 * 0 + _ ≤ _; exact Nat.le_of_eq rfl) (hb hby at_140) (fun _ _ => ⟨rfl, e85, (by decide : 13 + 0 ≤ _), (by decide : 32 + 0 ≤ _)⟩)
  dsimp only [Pt.U, Pt.locs, Pt.cells, Pt.slots] at X107 l107 y107 z107 st107 hQ107
  subst l107 y107 z107
  obtain ⟨rfl, N107q, KV107, FA107⟩ := hQ107
  have N107 := Fr.app N85 N107q
  have K107 : ∀ t, Steps p.tables e below (T107.setTop (mkF m 143 #[.val (.int fl), .val (.int ja), .val (.int jb), .val (.int jc), .val (.int j0), .val (.int j1), .val (.int ev0), .val (.int ev1), .val (.int pv0), .val (.int pv1), .val (.double (FP.l2d (own_nz ja))), .second, .val (.double (FP.i2d jb)), .second, .val (.double (FP.l2d (own_nz jc))), .second, .val (.ref b15), .val (.ref b19), .val (.ref b34), .val (.ref b50), .val (.ref b64), .val (.ref b79), .unset, .unset, .unset, .unset, .unset, .unset, .unset] [(.int (0 : Int32))])) t → Steps p.tables e below G0 t := fun t kt => K86 t (st107.trans kt)
  have Z107 : n0 ≤ T107.heap.size := Nat.le_trans Z85 KV107.1
  obtain ⟨fc107_0, fc107_1, fc107_2, fc107_3, fc107_4, fc107_5, fc107_6, fc107_7, fc107_8, fc107_9, fc107_10, fc107_11, fc107_12, fc107_13, fc107_14, fc107_15⟩ := id FA107
  have K108 : ∀ t, Steps p.tables e below (T107.setTop (mkF m 153 #[.val (.int fl), .val (.int ja), .val (.int jb), .val (.int jc), .val (.int j0), .val (.int j1), .val (.int ev0), .val (.int ev1), .val (.int pv0), .val (.int pv1), .val (.double (FP.l2d (own_nz ja))), .second, .val (.double (FP.i2d jb)), .second, .val (.double (FP.l2d (own_nz jc))), .second, .val (.ref b15), .val (.ref b19), .val (.ref b34), .val (.ref b50), .val (.ref b64), .val (.ref b79), .val (.int (0 : Int32)), .unset, .unset, .unset, .unset, .unset, .unset] [(.ref b64), (.ref b50), (.int ev1), (.ref b15)])) t → Steps p.tables e below G0 t := by
    intro t kt
    refine K107 t ?_
    refine XS.istore X107.here hx rfl (hb hby at_143) rfl (l' := #[.val (.int fl), .val (.int ja), .val (.int jb), .val (.int jc), .val (.int j0), .val (.int j1), .val (.int ev0), .val (.int ev1), .val (.int pv0), .val (.int pv1), .val (.double (FP.l2d (own_nz ja))), .second, .val (.double (FP.i2d jb)), .second, .val (.double (FP.l2d (own_nz jc))), .second, .val (.ref b15), .val (.ref b19), .val (.ref b34), .val (.ref b50), .val (.ref b64), .val (.ref b79), .val (.int (0 : Int32)), .unset, .unset, .unset, .unset, .unset, .unset]) rfl ?_
    show Steps p.tables e below (T107.setTop (mkF m 145 #[.val (.int fl), .val (.int ja), .val (.int jb), .val (.int jc), .val (.int j0), .val (.int j1), .val (.int ev0), .val (.int ev1), .val (.int pv0), .val (.int pv1), .val (.double (FP.l2d (own_nz ja))), .second, .val (.double (FP.i2d jb)), .second, .val (.double (FP.l2d (own_nz jc))), .second, .val (.ref b15), .val (.ref b19), .val (.ref b34), .val (.ref b50), .val (.ref b64), .val (.ref b79), .val (.int (0 : Int32)), .unset, .unset, .unset, .unset, .unset, .unset] [])) _
    refine XS.aload X107.here hx rfl (hb hby at_145) rfl rfl ?_
    show Steps p.tables e below (T107.setTop (mkF m 147 #[.val (.int fl), .val (.int ja), .val (.int jb), .val (.int jc), .val (.int j0), .val (.int j1), .val (.int ev0), .val (.int ev1), .val (.int pv0), .val (.int pv1), .val (.double (FP.l2d (own_nz ja))), .second, .val (.double (FP.i2d jb)), .second, .val (.double (FP.l2d (own_nz jc))), .second, .val (.ref b15), .val (.ref b19), .val (.ref b34), .val (.ref b50), .val (.ref b64), .val (.ref b79), .val (.int (0 : Int32)), .unset, .unset, .unset, .unset, .unset, .unset] [(.ref b15)])) _
    refine XS.iload X107.here hx rfl (hb hby at_147) rfl ?_
    show Steps p.tables e below (T107.setTop (mkF m 149 #[.val (.int fl), .val (.int ja), .val (.int jb), .val (.int jc), .val (.int j0), .val (.int j1), .val (.int ev0), .val (.int ev1), .val (.int pv0), .val (.int pv1), .val (.double (FP.l2d (own_nz ja))), .second, .val (.double (FP.i2d jb)), .second, .val (.double (FP.l2d (own_nz jc))), .second, .val (.ref b15), .val (.ref b19), .val (.ref b34), .val (.ref b50), .val (.ref b64), .val (.ref b79), .val (.int (0 : Int32)), .unset, .unset, .unset, .unset, .unset, .unset] [(.int ev1), (.ref b15)])) _
    refine XS.aload X107.here hx rfl (hb hby at_149) rfl rfl ?_
    show Steps p.tables e below (T107.setTop (mkF m 151 #[.val (.int fl), .val (.int ja), .val (.int jb), .val (.int jc), .val (.int j0), .val (.int j1), .val (.int ev0), .val (.int ev1), .val (.int pv0), .val (.int pv1), .val (.double (FP.l2d (own_nz ja))), .second, .val (.double (FP.i2d jb)), .second, .val (.double (FP.l2d (own_nz jc))), .second, .val (.ref b15), .val (.ref b19), .val (.ref b34), .val (.ref b50), .val (.ref b64), .val (.ref b79), .val (.int (0 : Int32)), .unset, .unset, .unset, .unset, .unset, .unset] [(.ref b50), (.int ev1), (.ref b15)])) _
    refine XS.aload X107.here hx rfl (hb hby at_151) rfl rfl ?_
    show Steps p.tables e below (T107.setTop (mkF m 153 #[.val (.int fl), .val (.int ja), .val (.int jb), .val (.int jc), .val (.int j0), .val (.int j1), .val (.int ev0), .val (.int ev1), .val (.int pv0), .val (.int pv1), .val (.double (FP.l2d (own_nz ja))), .second, .val (.double (FP.i2d jb)), .second, .val (.double (FP.l2d (own_nz jc))), .second, .val (.ref b15), .val (.ref b19), .val (.ref b34), .val (.ref b50), .val (.ref b64), .val (.ref b79), .val (.int (0 : Int32)), .unset, .unset, .unset, .unset, .unset, .unset] [(.ref b64), (.ref b50), (.int ev1), (.ref b15)])) _
    exact kt
  have FAx109 : own_Fac Z T107.heap b15 rb17 ml17 ln17 pe17 pu17 pc17 kr17 km17 kl17 ke17 ku17 kc17 (2 : Int32) (1 : Int32) (0 : Int64) [.null, .null] [.null, .null] [(.int (0 : Int32)), (.int (0 : Int32))] [(.int ev0), (.int (0 : Int32))] [(.ref b19), .null] [(.ref b34), .null] := ⟨fc107_0, fc107_1, fc107_2, fc107_3, fc107_4, fc107_5, fc107_6, fc107_7, fc107_8, fc107_9, fc107_10, fc107_11, fc107_12, fc107_13, fc107_14, fc107_15⟩
  have f110 := (((((((EA50.wr W53).ext E64).wr W67).ext E79).wr W82).wr W85).keep KV107)
  have f111 := (((((EA64.wr W67).ext E79).wr W82).wr W85).keep KV107)
  obtain ⟨cq112, kq112, q112a, q112b, q112c⟩ := isOf hZ (rfl : T107.heap = _) fc107_0
  obtain ⟨_, _, ⟨T113, L113, k113, n113⟩, -, X113, ⟨Lc113, hQ113, l113, y113, z113⟩, st113⟩ := X107.virtualBack hx (y := (⟨"com/example/sondage/sondage/inference/Factorization", "pivot", "(I[I[D)I"⟩ : MethodName)) (z := (⟨"com/example/sondage/sondage/inference/Factorization", "pivot", "(I[I[D)I"⟩ : MethodName)) hown (mvT hZ (hw _ (List.mem_of_getElem? (i := 36) rfl))) (mvT hZ (hw _ (List.mem_of_getElem? (i := 37) rfl))) (notFace_of_selects (args := #[]) (mvT hZ (hw _ (List.mem_of_getElem? (i := 39) rfl)))) (mvT hZ (hw _ (List.mem_of_getElem? (i := 39) rfl))) (mvT hZ (hw _ (List.mem_of_getElem? (i := 38) rfl))) (by decide) (backOf (W := 0) (rm4_1 l Z aa hw [] (b15) (ev1) (b50) (b64) rb17 ml17 ln17 pe17 pu17 pc17 kr17 km17 kl17 ke17 ku17 kc17 (0 : Int64) [.null, .null] [.null, .null] [(.int (0 : Int32)), (.int (0 : Int32))] (.int ev0) (.int (0 : Int32)) (.ref b19) .null (.ref b34) .null T107.heap n0 Z107 SP17 FAx109 f110 f111) hZ (hw _ (List.mem_of_getElem? (i := 40) rfl)) (hw _ (List.mem_of_getElem? (i := 2) rfl)) (by decide) (by decide)) q112a q112c (g := (mkF m 153 #[.val (.int fl), .val (.int ja), .val (.int jb), .val (.int jc), .val (.int j0), .val (.int j1), .val (.int ev0), .val (.int ev1), .val (.int pv0), .val (.int pv1), .val (.double (FP.l2d (own_nz ja))), .second, .val (.double (FP.i2d jb)), .second, .val (.double (FP.l2d (own_nz jc))), .second, .val (.ref b15), .val (.ref b19), .val (.ref b34), .val (.ref b50), .val (.ref b64), .val (.ref b79), .val (.int (0 : Int32)), .unset, .unset, .unset, .unset, .unset, .unset] [(.ref b64), (.ref b50), (.int ev1), (.ref b15)])) rfl (by rw [hml]; rfl) (Steps.refl _) (argsL := [(.int ev1), (.ref b50), (.ref b64)]) (rest := []) (lenOf pd_PI_I_DQI rfl) rfl (by show 2 * 0 + _ ≤ _; exact Nat.le_of_eq rfl) (hb hby at_153) (fun _ _ => ⟨rfl, (rfl : T107.heap = _), (by decide : 13 + 0 ≤ _), (by decide : 32 + 0 ≤ _)⟩)
  dsimp only [Pt.U, Pt.locs, Pt.cells, Pt.slots] at X113 l113 y113 z113 st113 hQ113
  subst l113 y113 z113
  obtain ⟨rfl, N113q, KV113, FA113⟩ := hQ113
  have N113 := Fr.app N107 N113q
  have K113 : ∀ t, Steps p.tables e below (T113.setTop (mkF m 156 #[.val (.int fl), .val (.int ja), .val (.int jb), .val (.int jc), .val (.int j0), .val (.int j1), .val (.int ev0), .val (.int ev1), .val (.int pv0), .val (.int pv1), .val (.double (FP.l2d (own_nz ja))), .second, .val (.double (FP.i2d jb)), .second, .val (.double (FP.l2d (own_nz jc))), .second, .val (.ref b15), .val (.ref b19), .val (.ref b34), .val (.ref b50), .val (.ref b64), .val (.ref b79), .val (.int (0 : Int32)), .unset, .unset, .unset, .unset, .unset, .unset] [(.int (1 : Int32))])) t → Steps p.tables e below G0 t := fun t kt => K108 t (st113.trans kt)
  have Z113 : n0 ≤ T113.heap.size := Nat.le_trans Z107 KV113.1
  obtain ⟨fc113_0, fc113_1, fc113_2, fc113_3, fc113_4, fc113_5, fc113_6, fc113_7, fc113_8, fc113_9, fc113_10, fc113_11, fc113_12, fc113_13, fc113_14, fc113_15⟩ := id FA113
  have K114 : ∀ t, Steps p.tables e below (T113.setTop (mkF m 173 #[.val (.int fl), .val (.int ja), .val (.int jb), .val (.int jc), .val (.int j0), .val (.int j1), .val (.int ev0), .val (.int ev1), .val (.int pv0), .val (.int pv1), .val (.double (FP.l2d (own_nz ja))), .second, .val (.double (FP.i2d jb)), .second, .val (.double (FP.l2d (own_nz jc))), .second, .val (.ref b15), .val (.ref b19), .val (.ref b34), .val (.ref b50), .val (.ref b64), .val (.ref b79), .val (.int (0 : Int32)), .val (.int (1 : Int32)), .unset, .unset, .unset, .unset, .unset] [(.ref b15)])) t → Steps p.tables e below G0 t := by
    intro t kt
    refine K113 t ?_
    refine XS.istore X113.here hx rfl (hb hby at_156) rfl (l' := #[.val (.int fl), .val (.int ja), .val (.int jb), .val (.int jc), .val (.int j0), .val (.int j1), .val (.int ev0), .val (.int ev1), .val (.int pv0), .val (.int pv1), .val (.double (FP.l2d (own_nz ja))), .second, .val (.double (FP.i2d jb)), .second, .val (.double (FP.l2d (own_nz jc))), .second, .val (.ref b15), .val (.ref b19), .val (.ref b34), .val (.ref b50), .val (.ref b64), .val (.ref b79), .val (.int (0 : Int32)), .val (.int (1 : Int32)), .unset, .unset, .unset, .unset, .unset]) rfl ?_
    show Steps p.tables e below (T113.setTop (mkF m 158 #[.val (.int fl), .val (.int ja), .val (.int jb), .val (.int jc), .val (.int j0), .val (.int j1), .val (.int ev0), .val (.int ev1), .val (.int pv0), .val (.int pv1), .val (.double (FP.l2d (own_nz ja))), .second, .val (.double (FP.i2d jb)), .second, .val (.double (FP.l2d (own_nz jc))), .second, .val (.ref b15), .val (.ref b19), .val (.ref b34), .val (.ref b50), .val (.ref b64), .val (.ref b79), .val (.int (0 : Int32)), .val (.int (1 : Int32)), .unset, .unset, .unset, .unset, .unset] [])) _
    refine XS.iload X113.here hx rfl (hb hby at_158) rfl ?_
    show Steps p.tables e below (T113.setTop (mkF m 160 #[.val (.int fl), .val (.int ja), .val (.int jb), .val (.int jc), .val (.int j0), .val (.int j1), .val (.int ev0), .val (.int ev1), .val (.int pv0), .val (.int pv1), .val (.double (FP.l2d (own_nz ja))), .second, .val (.double (FP.i2d jb)), .second, .val (.double (FP.l2d (own_nz jc))), .second, .val (.ref b15), .val (.ref b19), .val (.ref b34), .val (.ref b50), .val (.ref b64), .val (.ref b79), .val (.int (0 : Int32)), .val (.int (1 : Int32)), .unset, .unset, .unset, .unset, .unset] [(.int (0 : Int32))])) _
    refine XS.ifNo X113.here hx rfl (hb hby at_160) rfl ((if0 _ _).trans (teq rfl).2) ?_
    show Steps p.tables e below (T113.setTop (mkF m 163 #[.val (.int fl), .val (.int ja), .val (.int jb), .val (.int jc), .val (.int j0), .val (.int j1), .val (.int ev0), .val (.int ev1), .val (.int pv0), .val (.int pv1), .val (.double (FP.l2d (own_nz ja))), .second, .val (.double (FP.i2d jb)), .second, .val (.double (FP.l2d (own_nz jc))), .second, .val (.ref b15), .val (.ref b19), .val (.ref b34), .val (.ref b50), .val (.ref b64), .val (.ref b79), .val (.int (0 : Int32)), .val (.int (1 : Int32)), .unset, .unset, .unset, .unset, .unset] [])) _
    refine XS.iload X113.here hx rfl (hb hby at_163) rfl ?_
    show Steps p.tables e below (T113.setTop (mkF m 165 #[.val (.int fl), .val (.int ja), .val (.int jb), .val (.int jc), .val (.int j0), .val (.int j1), .val (.int ev0), .val (.int ev1), .val (.int pv0), .val (.int pv1), .val (.double (FP.l2d (own_nz ja))), .second, .val (.double (FP.i2d jb)), .second, .val (.double (FP.l2d (own_nz jc))), .second, .val (.ref b15), .val (.ref b19), .val (.ref b34), .val (.ref b50), .val (.ref b64), .val (.ref b79), .val (.int (0 : Int32)), .val (.int (1 : Int32)), .unset, .unset, .unset, .unset, .unset] [(.int (1 : Int32))])) _
    refine XS.iconst X113.here hx rfl (hb hby at_165) ?_
    show Steps p.tables e below (T113.setTop (mkF m 166 #[.val (.int fl), .val (.int ja), .val (.int jb), .val (.int jc), .val (.int j0), .val (.int j1), .val (.int ev0), .val (.int ev1), .val (.int pv0), .val (.int pv1), .val (.double (FP.l2d (own_nz ja))), .second, .val (.double (FP.i2d jb)), .second, .val (.double (FP.l2d (own_nz jc))), .second, .val (.ref b15), .val (.ref b19), .val (.ref b34), .val (.ref b50), .val (.ref b64), .val (.ref b79), .val (.int (0 : Int32)), .val (.int (1 : Int32)), .unset, .unset, .unset, .unset, .unset] [(.int (1 : Int32)), (.int (1 : Int32))])) _
    refine XS.icmpYes X113.here hx rfl (pc0 := 166) (pc' := 171) rfl (hb hby at_166) rfl (teq rfl).1 (by decide) (by decide) ?_
    show Steps p.tables e below (T113.setTop (mkF m 171 #[.val (.int fl), .val (.int ja), .val (.int jb), .val (.int jc), .val (.int j0), .val (.int j1), .val (.int ev0), .val (.int ev1), .val (.int pv0), .val (.int pv1), .val (.double (FP.l2d (own_nz ja))), .second, .val (.double (FP.i2d jb)), .second, .val (.double (FP.l2d (own_nz jc))), .second, .val (.ref b15), .val (.ref b19), .val (.ref b34), .val (.ref b50), .val (.ref b64), .val (.ref b79), .val (.int (0 : Int32)), .val (.int (1 : Int32)), .unset, .unset, .unset, .unset, .unset] [])) _
    refine XS.aload X113.here hx rfl (hb hby at_171) rfl rfl ?_
    show Steps p.tables e below (T113.setTop (mkF m 173 #[.val (.int fl), .val (.int ja), .val (.int jb), .val (.int jc), .val (.int j0), .val (.int j1), .val (.int ev0), .val (.int ev1), .val (.int pv0), .val (.int pv1), .val (.double (FP.l2d (own_nz ja))), .second, .val (.double (FP.i2d jb)), .second, .val (.double (FP.l2d (own_nz jc))), .second, .val (.ref b15), .val (.ref b19), .val (.ref b34), .val (.ref b50), .val (.ref b64), .val (.ref b79), .val (.int (0 : Int32)), .val (.int (1 : Int32)), .unset, .unset, .unset, .unset, .unset] [(.ref b15)])) _
    exact kt
  obtain ⟨cq115, kq115, q115a, q115b, q115c⟩ := isOf hZ (rfl : T113.heap = _) fc113_0
  obtain ⟨_, _, ⟨T116, L116, k116, n116⟩, -, X116, ⟨Lc116, hQ116, l116, y116, z116⟩, st116⟩ := X113.virtualBack hx (y := (⟨"com/example/sondage/sondage/inference/Factorization", "reductions", "()J"⟩ : MethodName)) (z := (⟨"com/example/sondage/sondage/inference/Factorization", "reductions", "()J"⟩ : MethodName)) hown (mvT hZ (hw _ (List.mem_of_getElem? (i := 45) rfl))) (mvT hZ (hw _ (List.mem_of_getElem? (i := 46) rfl))) (notFace_of_selects (args := #[]) (mvT hZ (hw _ (List.mem_of_getElem? (i := 48) rfl)))) (mvT hZ (hw _ (List.mem_of_getElem? (i := 48) rfl))) (mvT hZ (hw _ (List.mem_of_getElem? (i := 47) rfl))) (by decide) (backOf (W := 0) (rm5 l Z aa hw [] (b15) (0 : Int64) T113.heap n0 Z113 fc113_3) hZ (hw _ (List.mem_of_getElem? (i := 49) rfl)) (hw _ (List.mem_of_getElem? (i := 2) rfl)) (by decide) (by decide)) q115a q115c (g := (mkF m 173 #[.val (.int fl), .val (.int ja), .val (.int jb), .val (.int jc), .val (.int j0), .val (.int j1), .val (.int ev0), .val (.int ev1), .val (.int pv0), .val (.int pv1), .val (.double (FP.l2d (own_nz ja))), .second, .val (.double (FP.i2d jb)), .second, .val (.double (FP.l2d (own_nz jc))), .second, .val (.ref b15), .val (.ref b19), .val (.ref b34), .val (.ref b50), .val (.ref b64), .val (.ref b79), .val (.int (0 : Int32)), .val (.int (1 : Int32)), .unset, .unset, .unset, .unset, .unset] [(.ref b15)])) rfl (by rw [hml]; rfl) (Steps.refl _) (argsL := []) (rest := []) (lenOf pd_PQJ rfl) rfl (by show 2 * 0 + _ ≤ _; exact Nat.le_of_eq rfl) (hb hby at_173) (fun _ _ => ⟨rfl, (rfl : T113.heap = _), (by decide : 13 + 0 ≤ _), (by decide : 32 + 0 ≤ _)⟩)
  dsimp only [Pt.U, Pt.locs, Pt.cells, Pt.slots] at X116 l116 y116 z116 st116 hQ116
  subst l116 y116 z116
  obtain ⟨rfl, N116q, e116⟩ := hQ116
  have N116 := Fr.app N113 N116q
  have K116 : ∀ t, Steps p.tables e below (T116.setTop (mkF m 176 #[.val (.int fl), .val (.int ja), .val (.int jb), .val (.int jc), .val (.int j0), .val (.int j1), .val (.int ev0), .val (.int ev1), .val (.int pv0), .val (.int pv1), .val (.double (FP.l2d (own_nz ja))), .second, .val (.double (FP.i2d jb)), .second, .val (.double (FP.l2d (own_nz jc))), .second, .val (.ref b15), .val (.ref b19), .val (.ref b34), .val (.ref b50), .val (.ref b64), .val (.ref b79), .val (.int (0 : Int32)), .val (.int (1 : Int32)), .unset, .unset, .unset, .unset, .unset] [(.long (0 : Int64))])) t → Steps p.tables e below G0 t := fun t kt => K114 t (st116.trans kt)
  have K117 : ∀ t, Steps p.tables e below (T116.setTop (mkF m 187 #[.val (.int fl), .val (.int ja), .val (.int jb), .val (.int jc), .val (.int j0), .val (.int j1), .val (.int ev0), .val (.int ev1), .val (.int pv0), .val (.int pv1), .val (.double (FP.l2d (own_nz ja))), .second, .val (.double (FP.i2d jb)), .second, .val (.double (FP.l2d (own_nz jc))), .second, .val (.ref b15), .val (.ref b19), .val (.ref b34), .val (.ref b50), .val (.ref b64), .val (.ref b79), .val (.int (0 : Int32)), .val (.int (1 : Int32)), .unset, .unset, .unset, .unset, .unset] [(.ref b79), (.ref b15)])) t → Steps p.tables e below G0 t := by
    intro t kt
    refine K116 t ?_
    refine XS.lconst X116.here hx rfl (hb hby at_176) ?_
    show Steps p.tables e below (T116.setTop (mkF m 177 #[.val (.int fl), .val (.int ja), .val (.int jb), .val (.int jc), .val (.int j0), .val (.int j1), .val (.int ev0), .val (.int ev1), .val (.int pv0), .val (.int pv1), .val (.double (FP.l2d (own_nz ja))), .second, .val (.double (FP.i2d jb)), .second, .val (.double (FP.l2d (own_nz jc))), .second, .val (.ref b15), .val (.ref b19), .val (.ref b34), .val (.ref b50), .val (.ref b64), .val (.ref b79), .val (.int (0 : Int32)), .val (.int (1 : Int32)), .unset, .unset, .unset, .unset, .unset] [(.long (0 : Int64)), (.long (0 : Int64))])) _
    refine XS.lcmp X116.here hx rfl (hb hby at_177) rfl ?_
    show Steps p.tables e below (T116.setTop (mkF m 178 #[.val (.int fl), .val (.int ja), .val (.int jb), .val (.int jc), .val (.int j0), .val (.int j1), .val (.int ev0), .val (.int ev1), .val (.int pv0), .val (.int pv1), .val (.double (FP.l2d (own_nz ja))), .second, .val (.double (FP.i2d jb)), .second, .val (.double (FP.l2d (own_nz jc))), .second, .val (.ref b15), .val (.ref b19), .val (.ref b34), .val (.ref b50), .val (.ref b64), .val (.ref b79), .val (.int (0 : Int32)), .val (.int (1 : Int32)), .unset, .unset, .unset, .unset, .unset] [(.int (lcmpW (0 : Int64) (0 : Int64)))])) _
    refine XS.ifYes X116.here hx rfl (pc0 := 178) (pc' := 183) rfl (hb hby at_178) rfl ((if0 _ _).trans (teq ((lw_eq _ _).mpr rfl)).1) (by decide) (by decide) ?_
    show Steps p.tables e below (T116.setTop (mkF m 183 #[.val (.int fl), .val (.int ja), .val (.int jb), .val (.int jc), .val (.int j0), .val (.int j1), .val (.int ev0), .val (.int ev1), .val (.int pv0), .val (.int pv1), .val (.double (FP.l2d (own_nz ja))), .second, .val (.double (FP.i2d jb)), .second, .val (.double (FP.l2d (own_nz jc))), .second, .val (.ref b15), .val (.ref b19), .val (.ref b34), .val (.ref b50), .val (.ref b64), .val (.ref b79), .val (.int (0 : Int32)), .val (.int (1 : Int32)), .unset, .unset, .unset, .unset, .unset] [])) _
    refine XS.aload X116.here hx rfl (hb hby at_183) rfl rfl ?_
    show Steps p.tables e below (T116.setTop (mkF m 185 #[.val (.int fl), .val (.int ja), .val (.int jb), .val (.int jc), .val (.int j0), .val (.int j1), .val (.int ev0), .val (.int ev1), .val (.int pv0), .val (.int pv1), .val (.double (FP.l2d (own_nz ja))), .second, .val (.double (FP.i2d jb)), .second, .val (.double (FP.l2d (own_nz jc))), .second, .val (.ref b15), .val (.ref b19), .val (.ref b34), .val (.ref b50), .val (.ref b64), .val (.ref b79), .val (.int (0 : Int32)), .val (.int (1 : Int32)), .unset, .unset, .unset, .unset, .unset] [(.ref b15)])) _
    refine XS.aload X116.here hx rfl (hb hby at_185) rfl rfl ?_
    show Steps p.tables e below (T116.setTop (mkF m 187 #[.val (.int fl), .val (.int ja), .val (.int jb), .val (.int jc), .val (.int j0), .val (.int j1), .val (.int ev0), .val (.int ev1), .val (.int pv0), .val (.int pv1), .val (.double (FP.l2d (own_nz ja))), .second, .val (.double (FP.i2d jb)), .second, .val (.double (FP.l2d (own_nz jc))), .second, .val (.ref b15), .val (.ref b19), .val (.ref b34), .val (.ref b50), .val (.ref b64), .val (.ref b79), .val (.int (0 : Int32)), .val (.int (1 : Int32)), .unset, .unset, .unset, .unset, .unset] [(.ref b79), (.ref b15)])) _
    exact kt
  have f118 := (((((f76.ext E79).other W82 ne_b19_b79).other W85 ne_b19_b79).keep KV107 (by simp only [List.mem_cons, List.not_mem_nil, or_false, not_or]; exact ⟨(Ne.symm ne_b15_b19), (Ne.symm ne_pe17_b19), (Ne.symm ne_pu17_b19), (Ne.symm ne_pc17_b19)⟩)).keep KV113 (by simp only [List.mem_cons, List.not_mem_nil, or_false, not_or]; exact ⟨(Ne.symm ne_b15_b19), (Ne.symm ne_pe17_b19), (Ne.symm ne_pu17_b19), (Ne.symm ne_pc17_b19)⟩))
  have f119 := ((f104.keep KV107).keep KV113)
  have f120 := (((((f77.ext E79).other W82 ne_b34_b79).other W85 ne_b34_b79).keep KV107 (by simp only [List.mem_cons, List.not_mem_nil, or_false, not_or]; exact ⟨(Ne.symm ne_b15_b34), (Ne.symm ne_pe17_b34), (Ne.symm ne_pu17_b34), (Ne.symm ne_pc17_b34)⟩)).keep KV113 (by simp only [List.mem_cons, List.not_mem_nil, or_false, not_or]; exact ⟨(Ne.symm ne_b15_b34), (Ne.symm ne_pe17_b34), (Ne.symm ne_pu17_b34), (Ne.symm ne_pc17_b34)⟩))
  have f121 := ((f105.keep KV107).keep KV113)
  have f122 := (((((f78.ext E79).other W82 ne_b50_b79).other W85 ne_b50_b79).keep KV107 (by simp only [List.mem_cons, List.not_mem_nil, or_false, not_or]; exact ⟨(Ne.symm ne_b15_b50), (Ne.symm ne_pe17_b50), (Ne.symm ne_pu17_b50), (Ne.symm ne_pc17_b50)⟩)).keep KV113 (by simp only [List.mem_cons, List.not_mem_nil, or_false, not_or]; exact ⟨(Ne.symm ne_b15_b50), (Ne.symm ne_pe17_b50), (Ne.symm ne_pu17_b50), (Ne.symm ne_pc17_b50)⟩))
  have f123 := (f110.keep KV113)
  have f124 := (((((VL67.ext E79).other W82 ne_b64_b79).other W85 ne_b64_b79).keep KV107 (by simp only [List.mem_cons, List.not_mem_nil, or_false, not_or]; exact ⟨(Ne.symm ne_b15_b64), (Ne.symm ne_pe17_b64), (Ne.symm ne_pu17_b64), (Ne.symm ne_pc17_b64)⟩)).keep KV113 (by simp only [List.mem_cons, List.not_mem_nil, or_false, not_or]; exact ⟨(Ne.symm ne_b15_b64), (Ne.symm ne_pe17_b64), (Ne.symm ne_pu17_b64), (Ne.symm ne_pc17_b64)⟩))
  have f125 := (f111.keep KV113)
  have f126 := ((VL85.keep KV107 (by simp only [List.mem_cons, List.not_mem_nil, or_false, not_or]; exact ⟨(Ne.symm ne_b15_b79), (Ne.symm ne_pe17_b79), (Ne.symm ne_pu17_b79), (Ne.symm ne_pc17_b79)⟩)).keep KV113 (by simp only [List.mem_cons, List.not_mem_nil, or_false, not_or]; exact ⟨(Ne.symm ne_b15_b79), (Ne.symm ne_pe17_b79), (Ne.symm ne_pu17_b79), (Ne.symm ne_pc17_b79)⟩))
  have f127 := ((((EA79.wr W82).wr W85).keep KV107).keep KV113)
  have hA := own_nz0 ja
  have hD := own_nz0 jc
  rcases own_bit h_ev0 h_ev1 with ⟨q0, q1⟩ | ⟨q0, q1⟩ <;> rcases own_bit h_pv0 h_pv1 with ⟨q2, q3⟩ | ⟨q2, q3⟩ <;> (subst q0 q1 q2 q3)
  ·
    have FAx128 : own_Fac Z T113.heap b15 rb17 ml17 ln17 pe17 pu17 pc17 kr17 km17 kl17 ke17 ku17 kc17 (2 : Int32) (2 : Int32) (0 : Int64) [.null, .null] [.null, .null] [(.int (0 : Int32)), (.int (0 : Int32))] [(.int (0 : Int32)), (.int (1 : Int32))] [(.ref b19), (.ref b50)] [(.ref b34), (.ref b64)] := ⟨fc113_0, fc113_1, fc113_2, fc113_3, fc113_4, fc113_5, fc113_6, fc113_7, fc113_8, fc113_9, fc113_10, fc113_11, fc113_12, fc113_13, fc113_14, fc113_15⟩
    obtain ⟨cq129, kq129, q129a, q129b, q129c⟩ := isOf hZ e116 fc113_0
    obtain ⟨_, _, ⟨T130, L130, k130, n130⟩, -, X130, ⟨Lc130, hQ130, l130, y130, z130⟩, st130⟩ := X116.virtualBack hx (y := (⟨"com/example/sondage/sondage/inference/Factorization", "solve", "([D)[D"⟩ : MethodName)) (z := (⟨"com/example/sondage/sondage/inference/Factorization", "solve", "([D)[D"⟩ : MethodName)) hown (mvT hZ (hw _ (List.mem_of_getElem? (i := 52) rfl))) (mvT hZ (hw _ (List.mem_of_getElem? (i := 53) rfl))) (notFace_of_selects (args := #[]) (mvT hZ (hw _ (List.mem_of_getElem? (i := 55) rfl)))) (mvT hZ (hw _ (List.mem_of_getElem? (i := 55) rfl))) (mvT hZ (hw _ (List.mem_of_getElem? (i := 54) rfl))) (by decide) (backOf (W := 0) (rm6_00 l Z aa hw [] (b15) (b79) rb17 ml17 ln17 pe17 pu17 pc17 b19 b50 b34 b64 kr17 km17 kl17 ke17 ku17 kc17 _ _ _ _ _ (0 : Int64) [.null, .null] [.null, .null] (FP.i2d j0) (FP.i2d j1) (FP.l2d (own_nz ja)) (FP.i2d jb) (FP.l2d (own_nz jc)) T113.heap n0 Z113 FAx128 f126 f118 f122 f120 f124 (own_n1 j1 _ hD) (own_n2 jb j1 _ hD) (own_n3 j0 jb j1 _ hD) (own_n4 j0 jb j1 _ _ hD hA)) hZ (hw _ (List.mem_of_getElem? (i := 56) rfl)) (hw _ (List.mem_of_getElem? (i := 2) rfl)) (by decide) (by decide)) q129a q129c (g := (mkF m 187 #[.val (.int fl), .val (.int ja), .val (.int jb), .val (.int jc), .val (.int j0), .val (.int j1), .val (.int (0 : Int32)), .val (.int (1 : Int32)), .val (.int (0 : Int32)), .val (.int (1 : Int32)), .val (.double (FP.l2d (own_nz ja))), .second, .val (.double (FP.i2d jb)), .second, .val (.double (FP.l2d (own_nz jc))), .second, .val (.ref b15), .val (.ref b19), .val (.ref b34), .val (.ref b50), .val (.ref b64), .val (.ref b79), .val (.int (0 : Int32)), .val (.int (1 : Int32)), .unset, .unset, .unset, .unset, .unset] [(.ref b79), (.ref b15)])) rfl (by rw [hml]; rfl) (Steps.refl _) (argsL := [(.ref b79)]) (rest := []) (lenOf pd_P_DQ_D rfl) rfl (by show 2 * 0 + _ ≤ _; exact Nat.le_of_eq rfl) (hb hby at_187) (fun _ _ => ⟨rfl, e116, (by decide : 13 + 2 ≤ _), (by decide : 32 + 4 ≤ _)⟩)
    dsimp only [Pt.U, Pt.locs, Pt.cells, Pt.slots] at X130 l130 y130 z130 st130 hQ130
    subst l130 y130 z130
    obtain ⟨r130, kx130, rfl, N130q, KV130, VX130⟩ := hQ130
    have N130 := Fr.app N116 N130q
    have K130 : ∀ t, Steps p.tables e below (T130.setTop (mkF m 190 #[.val (.int fl), .val (.int ja), .val (.int jb), .val (.int jc), .val (.int j0), .val (.int j1), .val (.int (0 : Int32)), .val (.int (1 : Int32)), .val (.int (0 : Int32)), .val (.int (1 : Int32)), .val (.double (FP.l2d (own_nz ja))), .second, .val (.double (FP.i2d jb)), .second, .val (.double (FP.l2d (own_nz jc))), .second, .val (.ref b15), .val (.ref b19), .val (.ref b34), .val (.ref b50), .val (.ref b64), .val (.ref b79), .val (.int (0 : Int32)), .val (.int (1 : Int32)), .unset, .unset, .unset, .unset, .unset] [(.ref r130)])) t → Steps p.tables e below G0 t := fun t kt => K117 t (st130.trans kt)
    have Z130 : n0 ≤ T130.heap.size := Nat.le_trans Z113 KV130.1
    have K131 : ∀ t, Steps p.tables e below (T130.setTop (mkF m 196 #[.val (.int fl), .val (.int ja), .val (.int jb), .val (.int jc), .val (.int j0), .val (.int j1), .val (.int (0 : Int32)), .val (.int (1 : Int32)), .val (.int (0 : Int32)), .val (.int (1 : Int32)), .val (.double (FP.l2d (own_nz ja))), .second, .val (.double (FP.i2d jb)), .second, .val (.double (FP.l2d (own_nz jc))), .second, .val (.ref b15), .val (.ref b19), .val (.ref b34), .val (.ref b50), .val (.ref b64), .val (.ref b79), .val (.int (0 : Int32)), .val (.int (1 : Int32)), .val (.ref r130), .unset, .unset, .unset, .unset] [(.int (1 : Int32)), (.ref b79)])) t → Steps p.tables e below G0 t := by
      intro t kt
      refine K130 t ?_
      refine XS.astore X130.here hx rfl (hb hby at_190) rfl rfl (l' := #[.val (.int fl), .val (.int ja), .val (.int jb), .val (.int jc), .val (.int j0), .val (.int j1), .val (.int (0 : Int32)), .val (.int (1 : Int32)), .val (.int (0 : Int32)), .val (.int (1 : Int32)), .val (.double (FP.l2d (own_nz ja))), .second, .val (.double (FP.i2d jb)), .second, .val (.double (FP.l2d (own_nz jc))), .second, .val (.ref b15), .val (.ref b19), .val (.ref b34), .val (.ref b50), .val (.ref b64), .val (.ref b79), .val (.int (0 : Int32)), .val (.int (1 : Int32)), .val (.ref r130), .unset, .unset, .unset, .unset]) rfl ?_
      show Steps p.tables e below (T130.setTop (mkF m 192 #[.val (.int fl), .val (.int ja), .val (.int jb), .val (.int jc), .val (.int j0), .val (.int j1), .val (.int (0 : Int32)), .val (.int (1 : Int32)), .val (.int (0 : Int32)), .val (.int (1 : Int32)), .val (.double (FP.l2d (own_nz ja))), .second, .val (.double (FP.i2d jb)), .second, .val (.double (FP.l2d (own_nz jc))), .second, .val (.ref b15), .val (.ref b19), .val (.ref b34), .val (.ref b50), .val (.ref b64), .val (.ref b79), .val (.int (0 : Int32)), .val (.int (1 : Int32)), .val (.ref r130), .unset, .unset, .unset, .unset] [])) _
      refine XS.aload X130.here hx rfl (hb hby at_192) rfl rfl ?_
      show Steps p.tables e below (T130.setTop (mkF m 194 #[.val (.int fl), .val (.int ja), .val (.int jb), .val (.int jc), .val (.int j0), .val (.int j1), .val (.int (0 : Int32)), .val (.int (1 : Int32)), .val (.int (0 : Int32)), .val (.int (1 : Int32)), .val (.double (FP.l2d (own_nz ja))), .second, .val (.double (FP.i2d jb)), .second, .val (.double (FP.l2d (own_nz jc))), .second, .val (.ref b15), .val (.ref b19), .val (.ref b34), .val (.ref b50), .val (.ref b64), .val (.ref b79), .val (.int (0 : Int32)), .val (.int (1 : Int32)), .val (.ref r130), .unset, .unset, .unset, .unset] [(.ref b79)])) _
      refine XS.iload X130.here hx rfl (hb hby at_194) rfl ?_
      show Steps p.tables e below (T130.setTop (mkF m 196 #[.val (.int fl), .val (.int ja), .val (.int jb), .val (.int jc), .val (.int j0), .val (.int j1), .val (.int (0 : Int32)), .val (.int (1 : Int32)), .val (.int (0 : Int32)), .val (.int (1 : Int32)), .val (.double (FP.l2d (own_nz ja))), .second, .val (.double (FP.i2d jb)), .second, .val (.double (FP.l2d (own_nz jc))), .second, .val (.ref b15), .val (.ref b19), .val (.ref b34), .val (.ref b50), .val (.ref b64), .val (.ref b79), .val (.int (0 : Int32)), .val (.int (1 : Int32)), .val (.ref r130), .unset, .unset, .unset, .unset] [(.int (1 : Int32)), (.ref b79)])) _
      exact kt
    have f132 := (f126.keep KV130 (fun q => nomatch q))
    obtain ⟨cl133, Ar133, qq133, S133, M133, H133, GG133⟩ := id f132
    have hin133 : ¬ ((1 : Int32) < 0 ∨ cl133.slots.size ≤ ((1 : Int32)).toNatClampNeg) := inb_of S133 ⟨by decide, by decide⟩
    have hat133 : cl133.slots[((1 : Int32)).toNatClampNeg]? = some (.double (FP.i2d j1)) := Has.at H133 hin133 rfl
    have K134 : ∀ t, Steps p.tables e below (T130.setTop (mkF m 206 #[.val (.int fl), .val (.int ja), .val (.int jb), .val (.int jc), .val (.int j0), .val (.int j1), .val (.int (0 : Int32)), .val (.int (1 : Int32)), .val (.int (0 : Int32)), .val (.int (1 : Int32)), .val (.double (FP.l2d (own_nz ja))), .second, .val (.double (FP.i2d jb)), .second, .val (.double (FP.l2d (own_nz jc))), .second, .val (.ref b15), .val (.ref b19), .val (.ref b34), .val (.ref b50), .val (.ref b64), .val (.ref b79), .val (.int (0 : Int32)), .val (.int (1 : Int32)), .val (.ref r130), .val (.double (FP.ddiv (FP.i2d j1) (FP.l2d (own_nz jc)))), .second, .unset, .unset] [(.int (0 : Int32)), (.ref b79)])) t → Steps p.tables e below G0 t := by
      intro t kt
      refine K131 t ?_
      refine X130.daload hx (j := (1 : Int32)) (v := (.double (FP.i2d j1))) (by rw [(rfl : T130.heap = _)]; exact (Ar133).1) (State.isArrayOf_alike hZ.alike (Ar133).2.1) (Ar133).2.2 hin133 hat133 (g := (mkF m 196 #[.val (.int fl), .val (.int ja), .val (.int jb), .val (.int jc), .val (.int j0), .val (.int j1), .val (.int (0 : Int32)), .val (.int (1 : Int32)), .val (.int (0 : Int32)), .val (.int (1 : Int32)), .val (.double (FP.l2d (own_nz ja))), .second, .val (.double (FP.i2d jb)), .second, .val (.double (FP.l2d (own_nz jc))), .second, .val (.ref b15), .val (.ref b19), .val (.ref b34), .val (.ref b50), .val (.ref b64), .val (.ref b79), .val (.int (0 : Int32)), .val (.int (1 : Int32)), .val (.ref r130), .unset, .unset, .unset, .unset] [(.int (1 : Int32)), (.ref b79)])) rfl rfl (hb hby at_196) _ ?_
      show Steps p.tables e below (T130.setTop (mkF m 197 #[.val (.int fl), .val (.int ja), .val (.int jb), .val (.int jc), .val (.int j0), .val (.int j1), .val (.int (0 : Int32)), .val (.int (1 : Int32)), .val (.int (0 : Int32)), .val (.int (1 : Int32)), .val (.double (FP.l2d (own_nz ja))), .second, .val (.double (FP.i2d jb)), .second, .val (.double (FP.l2d (own_nz jc))), .second, .val (.ref b15), .val (.ref b19), .val (.ref b34), .val (.ref b50), .val (.ref b64), .val (.ref b79), .val (.int (0 : Int32)), .val (.int (1 : Int32)), .val (.ref r130), .unset, .unset, .unset, .unset] [(.double (FP.i2d j1))])) _
      refine XS.dload X130.here hx rfl (hb hby at_197) rfl ?_
      show Steps p.tables e below (T130.setTop (mkF m 199 #[.val (.int fl), .val (.int ja), .val (.int jb), .val (.int jc), .val (.int j0), .val (.int j1), .val (.int (0 : Int32)), .val (.int (1 : Int32)), .val (.int (0 : Int32)), .val (.int (1 : Int32)), .val (.double (FP.l2d (own_nz ja))), .second, .val (.double (FP.i2d jb)), .second, .val (.double (FP.l2d (own_nz jc))), .second, .val (.ref b15), .val (.ref b19), .val (.ref b34), .val (.ref b50), .val (.ref b64), .val (.ref b79), .val (.int (0 : Int32)), .val (.int (1 : Int32)), .val (.ref r130), .unset, .unset, .unset, .unset] [(.double (FP.l2d (own_nz jc))), (.double (FP.i2d j1))])) _
      refine XS.ddivS X130.here hx rfl (hb hby at_199) rfl (own_n1 j1 _ hD) rfl ?_
      show Steps p.tables e below (T130.setTop (mkF m 200 #[.val (.int fl), .val (.int ja), .val (.int jb), .val (.int jc), .val (.int j0), .val (.int j1), .val (.int (0 : Int32)), .val (.int (1 : Int32)), .val (.int (0 : Int32)), .val (.int (1 : Int32)), .val (.double (FP.l2d (own_nz ja))), .second, .val (.double (FP.i2d jb)), .second, .val (.double (FP.l2d (own_nz jc))), .second, .val (.ref b15), .val (.ref b19), .val (.ref b34), .val (.ref b50), .val (.ref b64), .val (.ref b79), .val (.int (0 : Int32)), .val (.int (1 : Int32)), .val (.ref r130), .unset, .unset, .unset, .unset] [(.double (FP.ddiv (FP.i2d j1) (FP.l2d (own_nz jc))))])) _
      refine XS.dstore X130.here hx rfl (hb hby at_200) rfl (l' := #[.val (.int fl), .val (.int ja), .val (.int jb), .val (.int jc), .val (.int j0), .val (.int j1), .val (.int (0 : Int32)), .val (.int (1 : Int32)), .val (.int (0 : Int32)), .val (.int (1 : Int32)), .val (.double (FP.l2d (own_nz ja))), .second, .val (.double (FP.i2d jb)), .second, .val (.double (FP.l2d (own_nz jc))), .second, .val (.ref b15), .val (.ref b19), .val (.ref b34), .val (.ref b50), .val (.ref b64), .val (.ref b79), .val (.int (0 : Int32)), .val (.int (1 : Int32)), .val (.ref r130), .val (.double (FP.ddiv (FP.i2d j1) (FP.l2d (own_nz jc)))), .second, .unset, .unset]) rfl ?_
      show Steps p.tables e below (T130.setTop (mkF m 202 #[.val (.int fl), .val (.int ja), .val (.int jb), .val (.int jc), .val (.int j0), .val (.int j1), .val (.int (0 : Int32)), .val (.int (1 : Int32)), .val (.int (0 : Int32)), .val (.int (1 : Int32)), .val (.double (FP.l2d (own_nz ja))), .second, .val (.double (FP.i2d jb)), .second, .val (.double (FP.l2d (own_nz jc))), .second, .val (.ref b15), .val (.ref b19), .val (.ref b34), .val (.ref b50), .val (.ref b64), .val (.ref b79), .val (.int (0 : Int32)), .val (.int (1 : Int32)), .val (.ref r130), .val (.double (FP.ddiv (FP.i2d j1) (FP.l2d (own_nz jc)))), .second, .unset, .unset] [])) _
      refine XS.aload X130.here hx rfl (hb hby at_202) rfl rfl ?_
      show Steps p.tables e below (T130.setTop (mkF m 204 #[.val (.int fl), .val (.int ja), .val (.int jb), .val (.int jc), .val (.int j0), .val (.int j1), .val (.int (0 : Int32)), .val (.int (1 : Int32)), .val (.int (0 : Int32)), .val (.int (1 : Int32)), .val (.double (FP.l2d (own_nz ja))), .second, .val (.double (FP.i2d jb)), .second, .val (.double (FP.l2d (own_nz jc))), .second, .val (.ref b15), .val (.ref b19), .val (.ref b34), .val (.ref b50), .val (.ref b64), .val (.ref b79), .val (.int (0 : Int32)), .val (.int (1 : Int32)), .val (.ref r130), .val (.double (FP.ddiv (FP.i2d j1) (FP.l2d (own_nz jc)))), .second, .unset, .unset] [(.ref b79)])) _
      refine XS.iload X130.here hx rfl (hb hby at_204) rfl ?_
      show Steps p.tables e below (T130.setTop (mkF m 206 #[.val (.int fl), .val (.int ja), .val (.int jb), .val (.int jc), .val (.int j0), .val (.int j1), .val (.int (0 : Int32)), .val (.int (1 : Int32)), .val (.int (0 : Int32)), .val (.int (1 : Int32)), .val (.double (FP.l2d (own_nz ja))), .second, .val (.double (FP.i2d jb)), .second, .val (.double (FP.l2d (own_nz jc))), .second, .val (.ref b15), .val (.ref b19), .val (.ref b34), .val (.ref b50), .val (.ref b64), .val (.ref b79), .val (.int (0 : Int32)), .val (.int (1 : Int32)), .val (.ref r130), .val (.double (FP.ddiv (FP.i2d j1) (FP.l2d (own_nz jc)))), .second, .unset, .unset] [(.int (0 : Int32)), (.ref b79)])) _
      exact kt
    obtain ⟨cl135, Ar135, qq135, S135, M135, H135, GG135⟩ := id f132
    have hin135 : ¬ ((0 : Int32) < 0 ∨ cl135.slots.size ≤ ((0 : Int32)).toNatClampNeg) := inb_of S135 ⟨by decide, by decide⟩
    have hat135 : cl135.slots[((0 : Int32)).toNatClampNeg]? = some (.double (FP.i2d j0)) := Has.at H135 hin135 rfl
    have K136 : ∀ t, Steps p.tables e below (T130.setTop (mkF m 220 #[.val (.int fl), .val (.int ja), .val (.int jb), .val (.int jc), .val (.int j0), .val (.int j1), .val (.int (0 : Int32)), .val (.int (1 : Int32)), .val (.int (0 : Int32)), .val (.int (1 : Int32)), .val (.double (FP.l2d (own_nz ja))), .second, .val (.double (FP.i2d jb)), .second, .val (.double (FP.l2d (own_nz jc))), .second, .val (.ref b15), .val (.ref b19), .val (.ref b34), .val (.ref b50), .val (.ref b64), .val (.ref b79), .val (.int (0 : Int32)), .val (.int (1 : Int32)), .val (.ref r130), .val (.double (FP.ddiv (FP.i2d j1) (FP.l2d (own_nz jc)))), .second, .val (.double (FP.ddiv (FP.dsub (FP.i2d j0) (FP.dmul (FP.i2d jb) (FP.ddiv (FP.i2d j1) (FP.l2d (own_nz jc))))) (FP.l2d (own_nz ja)))), .second] [(.ref r130)])) t → Steps p.tables e below G0 t := by
      intro t kt
      refine K134 t ?_
      refine X130.daload hx (j := (0 : Int32)) (v := (.double (FP.i2d j0))) (by rw [(rfl : T130.heap = _)]; exact (Ar135).1) (State.isArrayOf_alike hZ.alike (Ar135).2.1) (Ar135).2.2 hin135 hat135 (g := (mkF m 206 #[.val (.int fl), .val (.int ja), .val (.int jb), .val (.int jc), .val (.int j0), .val (.int j1), .val (.int (0 : Int32)), .val (.int (1 : Int32)), .val (.int (0 : Int32)), .val (.int (1 : Int32)), .val (.double (FP.l2d (own_nz ja))), .second, .val (.double (FP.i2d jb)), .second, .val (.double (FP.l2d (own_nz jc))), .second, .val (.ref b15), .val (.ref b19), .val (.ref b34), .val (.ref b50), .val (.ref b64), .val (.ref b79), .val (.int (0 : Int32)), .val (.int (1 : Int32)), .val (.ref r130), .val (.double (FP.ddiv (FP.i2d j1) (FP.l2d (own_nz jc)))), .second, .unset, .unset] [(.int (0 : Int32)), (.ref b79)])) rfl rfl (hb hby at_206) _ ?_
      show Steps p.tables e below (T130.setTop (mkF m 207 #[.val (.int fl), .val (.int ja), .val (.int jb), .val (.int jc), .val (.int j0), .val (.int j1), .val (.int (0 : Int32)), .val (.int (1 : Int32)), .val (.int (0 : Int32)), .val (.int (1 : Int32)), .val (.double (FP.l2d (own_nz ja))), .second, .val (.double (FP.i2d jb)), .second, .val (.double (FP.l2d (own_nz jc))), .second, .val (.ref b15), .val (.ref b19), .val (.ref b34), .val (.ref b50), .val (.ref b64), .val (.ref b79), .val (.int (0 : Int32)), .val (.int (1 : Int32)), .val (.ref r130), .val (.double (FP.ddiv (FP.i2d j1) (FP.l2d (own_nz jc)))), .second, .unset, .unset] [(.double (FP.i2d j0))])) _
      refine XS.dload X130.here hx rfl (hb hby at_207) rfl ?_
      show Steps p.tables e below (T130.setTop (mkF m 209 #[.val (.int fl), .val (.int ja), .val (.int jb), .val (.int jc), .val (.int j0), .val (.int j1), .val (.int (0 : Int32)), .val (.int (1 : Int32)), .val (.int (0 : Int32)), .val (.int (1 : Int32)), .val (.double (FP.l2d (own_nz ja))), .second, .val (.double (FP.i2d jb)), .second, .val (.double (FP.l2d (own_nz jc))), .second, .val (.ref b15), .val (.ref b19), .val (.ref b34), .val (.ref b50), .val (.ref b64), .val (.ref b79), .val (.int (0 : Int32)), .val (.int (1 : Int32)), .val (.ref r130), .val (.double (FP.ddiv (FP.i2d j1) (FP.l2d (own_nz jc)))), .second, .unset, .unset] [(.double (FP.i2d jb)), (.double (FP.i2d j0))])) _
      refine XS.dload X130.here hx rfl (hb hby at_209) rfl ?_
      show Steps p.tables e below (T130.setTop (mkF m 211 #[.val (.int fl), .val (.int ja), .val (.int jb), .val (.int jc), .val (.int j0), .val (.int j1), .val (.int (0 : Int32)), .val (.int (1 : Int32)), .val (.int (0 : Int32)), .val (.int (1 : Int32)), .val (.double (FP.l2d (own_nz ja))), .second, .val (.double (FP.i2d jb)), .second, .val (.double (FP.l2d (own_nz jc))), .second, .val (.ref b15), .val (.ref b19), .val (.ref b34), .val (.ref b50), .val (.ref b64), .val (.ref b79), .val (.int (0 : Int32)), .val (.int (1 : Int32)), .val (.ref r130), .val (.double (FP.ddiv (FP.i2d j1) (FP.l2d (own_nz jc)))), .second, .unset, .unset] [(.double (FP.ddiv (FP.i2d j1) (FP.l2d (own_nz jc)))), (.double (FP.i2d jb)), (.double (FP.i2d j0))])) _
      refine XS.dmulS X130.here hx rfl (hb hby at_211) rfl (own_n2 jb j1 _ hD) rfl ?_
      show Steps p.tables e below (T130.setTop (mkF m 212 #[.val (.int fl), .val (.int ja), .val (.int jb), .val (.int jc), .val (.int j0), .val (.int j1), .val (.int (0 : Int32)), .val (.int (1 : Int32)), .val (.int (0 : Int32)), .val (.int (1 : Int32)), .val (.double (FP.l2d (own_nz ja))), .second, .val (.double (FP.i2d jb)), .second, .val (.double (FP.l2d (own_nz jc))), .second, .val (.ref b15), .val (.ref b19), .val (.ref b34), .val (.ref b50), .val (.ref b64), .val (.ref b79), .val (.int (0 : Int32)), .val (.int (1 : Int32)), .val (.ref r130), .val (.double (FP.ddiv (FP.i2d j1) (FP.l2d (own_nz jc)))), .second, .unset, .unset] [(.double (FP.dmul (FP.i2d jb) (FP.ddiv (FP.i2d j1) (FP.l2d (own_nz jc))))), (.double (FP.i2d j0))])) _
      refine XS.dsubS X130.here hx rfl (hb hby at_212) rfl (own_n3 j0 jb j1 _ hD) rfl ?_
      show Steps p.tables e below (T130.setTop (mkF m 213 #[.val (.int fl), .val (.int ja), .val (.int jb), .val (.int jc), .val (.int j0), .val (.int j1), .val (.int (0 : Int32)), .val (.int (1 : Int32)), .val (.int (0 : Int32)), .val (.int (1 : Int32)), .val (.double (FP.l2d (own_nz ja))), .second, .val (.double (FP.i2d jb)), .second, .val (.double (FP.l2d (own_nz jc))), .second, .val (.ref b15), .val (.ref b19), .val (.ref b34), .val (.ref b50), .val (.ref b64), .val (.ref b79), .val (.int (0 : Int32)), .val (.int (1 : Int32)), .val (.ref r130), .val (.double (FP.ddiv (FP.i2d j1) (FP.l2d (own_nz jc)))), .second, .unset, .unset] [(.double (FP.dsub (FP.i2d j0) (FP.dmul (FP.i2d jb) (FP.ddiv (FP.i2d j1) (FP.l2d (own_nz jc))))))])) _
      refine XS.dload X130.here hx rfl (hb hby at_213) rfl ?_
      show Steps p.tables e below (T130.setTop (mkF m 215 #[.val (.int fl), .val (.int ja), .val (.int jb), .val (.int jc), .val (.int j0), .val (.int j1), .val (.int (0 : Int32)), .val (.int (1 : Int32)), .val (.int (0 : Int32)), .val (.int (1 : Int32)), .val (.double (FP.l2d (own_nz ja))), .second, .val (.double (FP.i2d jb)), .second, .val (.double (FP.l2d (own_nz jc))), .second, .val (.ref b15), .val (.ref b19), .val (.ref b34), .val (.ref b50), .val (.ref b64), .val (.ref b79), .val (.int (0 : Int32)), .val (.int (1 : Int32)), .val (.ref r130), .val (.double (FP.ddiv (FP.i2d j1) (FP.l2d (own_nz jc)))), .second, .unset, .unset] [(.double (FP.l2d (own_nz ja))), (.double (FP.dsub (FP.i2d j0) (FP.dmul (FP.i2d jb) (FP.ddiv (FP.i2d j1) (FP.l2d (own_nz jc))))))])) _
      refine XS.ddivS X130.here hx rfl (hb hby at_215) rfl (own_n4 j0 jb j1 _ _ hD hA) rfl ?_
      show Steps p.tables e below (T130.setTop (mkF m 216 #[.val (.int fl), .val (.int ja), .val (.int jb), .val (.int jc), .val (.int j0), .val (.int j1), .val (.int (0 : Int32)), .val (.int (1 : Int32)), .val (.int (0 : Int32)), .val (.int (1 : Int32)), .val (.double (FP.l2d (own_nz ja))), .second, .val (.double (FP.i2d jb)), .second, .val (.double (FP.l2d (own_nz jc))), .second, .val (.ref b15), .val (.ref b19), .val (.ref b34), .val (.ref b50), .val (.ref b64), .val (.ref b79), .val (.int (0 : Int32)), .val (.int (1 : Int32)), .val (.ref r130), .val (.double (FP.ddiv (FP.i2d j1) (FP.l2d (own_nz jc)))), .second, .unset, .unset] [(.double (FP.ddiv (FP.dsub (FP.i2d j0) (FP.dmul (FP.i2d jb) (FP.ddiv (FP.i2d j1) (FP.l2d (own_nz jc))))) (FP.l2d (own_nz ja))))])) _
      refine XS.dstore X130.here hx rfl (hb hby at_216) rfl (l' := #[.val (.int fl), .val (.int ja), .val (.int jb), .val (.int jc), .val (.int j0), .val (.int j1), .val (.int (0 : Int32)), .val (.int (1 : Int32)), .val (.int (0 : Int32)), .val (.int (1 : Int32)), .val (.double (FP.l2d (own_nz ja))), .second, .val (.double (FP.i2d jb)), .second, .val (.double (FP.l2d (own_nz jc))), .second, .val (.ref b15), .val (.ref b19), .val (.ref b34), .val (.ref b50), .val (.ref b64), .val (.ref b79), .val (.int (0 : Int32)), .val (.int (1 : Int32)), .val (.ref r130), .val (.double (FP.ddiv (FP.i2d j1) (FP.l2d (own_nz jc)))), .second, .val (.double (FP.ddiv (FP.dsub (FP.i2d j0) (FP.dmul (FP.i2d jb) (FP.ddiv (FP.i2d j1) (FP.l2d (own_nz jc))))) (FP.l2d (own_nz ja)))), .second]) rfl ?_
      show Steps p.tables e below (T130.setTop (mkF m 218 #[.val (.int fl), .val (.int ja), .val (.int jb), .val (.int jc), .val (.int j0), .val (.int j1), .val (.int (0 : Int32)), .val (.int (1 : Int32)), .val (.int (0 : Int32)), .val (.int (1 : Int32)), .val (.double (FP.l2d (own_nz ja))), .second, .val (.double (FP.i2d jb)), .second, .val (.double (FP.l2d (own_nz jc))), .second, .val (.ref b15), .val (.ref b19), .val (.ref b34), .val (.ref b50), .val (.ref b64), .val (.ref b79), .val (.int (0 : Int32)), .val (.int (1 : Int32)), .val (.ref r130), .val (.double (FP.ddiv (FP.i2d j1) (FP.l2d (own_nz jc)))), .second, .val (.double (FP.ddiv (FP.dsub (FP.i2d j0) (FP.dmul (FP.i2d jb) (FP.ddiv (FP.i2d j1) (FP.l2d (own_nz jc))))) (FP.l2d (own_nz ja)))), .second] [])) _
      refine XS.aload X130.here hx rfl (hb hby at_218) rfl rfl ?_
      show Steps p.tables e below (T130.setTop (mkF m 220 #[.val (.int fl), .val (.int ja), .val (.int jb), .val (.int jc), .val (.int j0), .val (.int j1), .val (.int (0 : Int32)), .val (.int (1 : Int32)), .val (.int (0 : Int32)), .val (.int (1 : Int32)), .val (.double (FP.l2d (own_nz ja))), .second, .val (.double (FP.i2d jb)), .second, .val (.double (FP.l2d (own_nz jc))), .second, .val (.ref b15), .val (.ref b19), .val (.ref b34), .val (.ref b50), .val (.ref b64), .val (.ref b79), .val (.int (0 : Int32)), .val (.int (1 : Int32)), .val (.ref r130), .val (.double (FP.ddiv (FP.i2d j1) (FP.l2d (own_nz jc)))), .second, .val (.double (FP.ddiv (FP.dsub (FP.i2d j0) (FP.dmul (FP.i2d jb) (FP.ddiv (FP.i2d j1) (FP.l2d (own_nz jc))))) (FP.l2d (own_nz ja)))), .second] [(.ref r130)])) _
      exact kt
    obtain ⟨cl137, Ar137, qq137, S137, M137, H137, GG137⟩ := id VX130
    have K138 : ∀ t, Steps p.tables e below (T130.setTop (mkF m 229 #[.val (.int fl), .val (.int ja), .val (.int jb), .val (.int jc), .val (.int j0), .val (.int j1), .val (.int (0 : Int32)), .val (.int (1 : Int32)), .val (.int (0 : Int32)), .val (.int (1 : Int32)), .val (.double (FP.l2d (own_nz ja))), .second, .val (.double (FP.i2d jb)), .second, .val (.double (FP.l2d (own_nz jc))), .second, .val (.ref b15), .val (.ref b19), .val (.ref b34), .val (.ref b50), .val (.ref b64), .val (.ref b79), .val (.int (0 : Int32)), .val (.int (1 : Int32)), .val (.ref r130), .val (.double (FP.ddiv (FP.i2d j1) (FP.l2d (own_nz jc)))), .second, .val (.double (FP.ddiv (FP.dsub (FP.i2d j0) (FP.dmul (FP.i2d jb) (FP.ddiv (FP.i2d j1) (FP.l2d (own_nz jc))))) (FP.l2d (own_nz ja)))), .second] [(.int (1 : Int32)), (.ref r130)])) t → Steps p.tables e below G0 t := by
      intro t kt
      refine K136 t ?_
      refine X130.arraylength hx (by rw [(rfl : T130.heap = _)]; exact (Ar137).1) (State.isArrayOf_alike hZ.alike (Ar137).2.1) (g := (mkF m 220 #[.val (.int fl), .val (.int ja), .val (.int jb), .val (.int jc), .val (.int j0), .val (.int j1), .val (.int (0 : Int32)), .val (.int (1 : Int32)), .val (.int (0 : Int32)), .val (.int (1 : Int32)), .val (.double (FP.l2d (own_nz ja))), .second, .val (.double (FP.i2d jb)), .second, .val (.double (FP.l2d (own_nz jc))), .second, .val (.ref b15), .val (.ref b19), .val (.ref b34), .val (.ref b50), .val (.ref b64), .val (.ref b79), .val (.int (0 : Int32)), .val (.int (1 : Int32)), .val (.ref r130), .val (.double (FP.ddiv (FP.i2d j1) (FP.l2d (own_nz jc)))), .second, .val (.double (FP.ddiv (FP.dsub (FP.i2d j0) (FP.dmul (FP.i2d jb) (FP.ddiv (FP.i2d j1) (FP.l2d (own_nz jc))))) (FP.l2d (own_nz ja)))), .second] [(.ref r130)])) rfl rfl (hb hby at_220) _ ?_
      rw [len_of S137 M137]
      show Steps p.tables e below (T130.setTop (mkF m 221 #[.val (.int fl), .val (.int ja), .val (.int jb), .val (.int jc), .val (.int j0), .val (.int j1), .val (.int (0 : Int32)), .val (.int (1 : Int32)), .val (.int (0 : Int32)), .val (.int (1 : Int32)), .val (.double (FP.l2d (own_nz ja))), .second, .val (.double (FP.i2d jb)), .second, .val (.double (FP.l2d (own_nz jc))), .second, .val (.ref b15), .val (.ref b19), .val (.ref b34), .val (.ref b50), .val (.ref b64), .val (.ref b79), .val (.int (0 : Int32)), .val (.int (1 : Int32)), .val (.ref r130), .val (.double (FP.ddiv (FP.i2d j1) (FP.l2d (own_nz jc)))), .second, .val (.double (FP.ddiv (FP.dsub (FP.i2d j0) (FP.dmul (FP.i2d jb) (FP.ddiv (FP.i2d j1) (FP.l2d (own_nz jc))))) (FP.l2d (own_nz ja)))), .second] [(.int (2 : Int32))])) _
      refine XS.iconst X130.here hx rfl (hb hby at_221) ?_
      show Steps p.tables e below (T130.setTop (mkF m 222 #[.val (.int fl), .val (.int ja), .val (.int jb), .val (.int jc), .val (.int j0), .val (.int j1), .val (.int (0 : Int32)), .val (.int (1 : Int32)), .val (.int (0 : Int32)), .val (.int (1 : Int32)), .val (.double (FP.l2d (own_nz ja))), .second, .val (.double (FP.i2d jb)), .second, .val (.double (FP.l2d (own_nz jc))), .second, .val (.ref b15), .val (.ref b19), .val (.ref b34), .val (.ref b50), .val (.ref b64), .val (.ref b79), .val (.int (0 : Int32)), .val (.int (1 : Int32)), .val (.ref r130), .val (.double (FP.ddiv (FP.i2d j1) (FP.l2d (own_nz jc)))), .second, .val (.double (FP.ddiv (FP.dsub (FP.i2d j0) (FP.dmul (FP.i2d jb) (FP.ddiv (FP.i2d j1) (FP.l2d (own_nz jc))))) (FP.l2d (own_nz ja)))), .second] [(.int (2 : Int32)), (.int (2 : Int32))])) _
      refine XS.icmpNo X130.here hx rfl (hb hby at_222) rfl (teq (by decide)).2 ?_
      show Steps p.tables e below (T130.setTop (mkF m 225 #[.val (.int fl), .val (.int ja), .val (.int jb), .val (.int jc), .val (.int j0), .val (.int j1), .val (.int (0 : Int32)), .val (.int (1 : Int32)), .val (.int (0 : Int32)), .val (.int (1 : Int32)), .val (.double (FP.l2d (own_nz ja))), .second, .val (.double (FP.i2d jb)), .second, .val (.double (FP.l2d (own_nz jc))), .second, .val (.ref b15), .val (.ref b19), .val (.ref b34), .val (.ref b50), .val (.ref b64), .val (.ref b79), .val (.int (0 : Int32)), .val (.int (1 : Int32)), .val (.ref r130), .val (.double (FP.ddiv (FP.i2d j1) (FP.l2d (own_nz jc)))), .second, .val (.double (FP.ddiv (FP.dsub (FP.i2d j0) (FP.dmul (FP.i2d jb) (FP.ddiv (FP.i2d j1) (FP.l2d (own_nz jc))))) (FP.l2d (own_nz ja)))), .second] [])) _
      refine XS.aload X130.here hx rfl (hb hby at_225) rfl rfl ?_
      show Steps p.tables e below (T130.setTop (mkF m 227 #[.val (.int fl), .val (.int ja), .val (.int jb), .val (.int jc), .val (.int j0), .val (.int j1), .val (.int (0 : Int32)), .val (.int (1 : Int32)), .val (.int (0 : Int32)), .val (.int (1 : Int32)), .val (.double (FP.l2d (own_nz ja))), .second, .val (.double (FP.i2d jb)), .second, .val (.double (FP.l2d (own_nz jc))), .second, .val (.ref b15), .val (.ref b19), .val (.ref b34), .val (.ref b50), .val (.ref b64), .val (.ref b79), .val (.int (0 : Int32)), .val (.int (1 : Int32)), .val (.ref r130), .val (.double (FP.ddiv (FP.i2d j1) (FP.l2d (own_nz jc)))), .second, .val (.double (FP.ddiv (FP.dsub (FP.i2d j0) (FP.dmul (FP.i2d jb) (FP.ddiv (FP.i2d j1) (FP.l2d (own_nz jc))))) (FP.l2d (own_nz ja)))), .second] [(.ref r130)])) _
      refine XS.iload X130.here hx rfl (hb hby at_227) rfl ?_
      show Steps p.tables e below (T130.setTop (mkF m 229 #[.val (.int fl), .val (.int ja), .val (.int jb), .val (.int jc), .val (.int j0), .val (.int j1), .val (.int (0 : Int32)), .val (.int (1 : Int32)), .val (.int (0 : Int32)), .val (.int (1 : Int32)), .val (.double (FP.l2d (own_nz ja))), .second, .val (.double (FP.i2d jb)), .second, .val (.double (FP.l2d (own_nz jc))), .second, .val (.ref b15), .val (.ref b19), .val (.ref b34), .val (.ref b50), .val (.ref b64), .val (.ref b79), .val (.int (0 : Int32)), .val (.int (1 : Int32)), .val (.ref r130), .val (.double (FP.ddiv (FP.i2d j1) (FP.l2d (own_nz jc)))), .second, .val (.double (FP.ddiv (FP.dsub (FP.i2d j0) (FP.dmul (FP.i2d jb) (FP.ddiv (FP.i2d j1) (FP.l2d (own_nz jc))))) (FP.l2d (own_nz ja)))), .second] [(.int (1 : Int32)), (.ref r130)])) _
      exact kt
    obtain ⟨cl139, Ar139, qq139, S139, M139, H139, GG139⟩ := id VX130
    have hin139 : ¬ ((1 : Int32) < 0 ∨ cl139.slots.size ≤ ((1 : Int32)).toNatClampNeg) := inb_of S139 ⟨by decide, by decide⟩
    have hat139 : cl139.slots[((1 : Int32)).toNatClampNeg]? = some (.double (FP.ddiv (FP.i2d j1) (FP.l2d (own_nz jc)))) := Has.at H139 hin139 rfl
    have K140 : ∀ t, Steps p.tables e below (T130.setTop (mkF m 233 #[.val (.int fl), .val (.int ja), .val (.int jb), .val (.int jc), .val (.int j0), .val (.int j1), .val (.int (0 : Int32)), .val (.int (1 : Int32)), .val (.int (0 : Int32)), .val (.int (1 : Int32)), .val (.double (FP.l2d (own_nz ja))), .second, .val (.double (FP.i2d jb)), .second, .val (.double (FP.l2d (own_nz jc))), .second, .val (.ref b15), .val (.ref b19), .val (.ref b34), .val (.ref b50), .val (.ref b64), .val (.ref b79), .val (.int (0 : Int32)), .val (.int (1 : Int32)), .val (.ref r130), .val (.double (FP.ddiv (FP.i2d j1) (FP.l2d (own_nz jc)))), .second, .val (.double (FP.ddiv (FP.dsub (FP.i2d j0) (FP.dmul (FP.i2d jb) (FP.ddiv (FP.i2d j1) (FP.l2d (own_nz jc))))) (FP.l2d (own_nz ja)))), .second] [(.int (cmpValue (FP.dcmp (FP.ddiv (FP.i2d j1) (FP.l2d (own_nz jc))) (FP.ddiv (FP.i2d j1) (FP.l2d (own_nz jc)))) .l))])) t → Steps p.tables e below G0 t := by
      intro t kt
      refine K138 t ?_
      refine X130.daload hx (j := (1 : Int32)) (v := (.double (FP.ddiv (FP.i2d j1) (FP.l2d (own_nz jc))))) (by rw [(rfl : T130.heap = _)]; exact (Ar139).1) (State.isArrayOf_alike hZ.alike (Ar139).2.1) (Ar139).2.2 hin139 hat139 (g := (mkF m 229 #[.val (.int fl), .val (.int ja), .val (.int jb), .val (.int jc), .val (.int j0), .val (.int j1), .val (.int (0 : Int32)), .val (.int (1 : Int32)), .val (.int (0 : Int32)), .val (.int (1 : Int32)), .val (.double (FP.l2d (own_nz ja))), .second, .val (.double (FP.i2d jb)), .second, .val (.double (FP.l2d (own_nz jc))), .second, .val (.ref b15), .val (.ref b19), .val (.ref b34), .val (.ref b50), .val (.ref b64), .val (.ref b79), .val (.int (0 : Int32)), .val (.int (1 : Int32)), .val (.ref r130), .val (.double (FP.ddiv (FP.i2d j1) (FP.l2d (own_nz jc)))), .second, .val (.double (FP.ddiv (FP.dsub (FP.i2d j0) (FP.dmul (FP.i2d jb) (FP.ddiv (FP.i2d j1) (FP.l2d (own_nz jc))))) (FP.l2d (own_nz ja)))), .second] [(.int (1 : Int32)), (.ref r130)])) rfl rfl (hb hby at_229) _ ?_
      show Steps p.tables e below (T130.setTop (mkF m 230 #[.val (.int fl), .val (.int ja), .val (.int jb), .val (.int jc), .val (.int j0), .val (.int j1), .val (.int (0 : Int32)), .val (.int (1 : Int32)), .val (.int (0 : Int32)), .val (.int (1 : Int32)), .val (.double (FP.l2d (own_nz ja))), .second, .val (.double (FP.i2d jb)), .second, .val (.double (FP.l2d (own_nz jc))), .second, .val (.ref b15), .val (.ref b19), .val (.ref b34), .val (.ref b50), .val (.ref b64), .val (.ref b79), .val (.int (0 : Int32)), .val (.int (1 : Int32)), .val (.ref r130), .val (.double (FP.ddiv (FP.i2d j1) (FP.l2d (own_nz jc)))), .second, .val (.double (FP.ddiv (FP.dsub (FP.i2d j0) (FP.dmul (FP.i2d jb) (FP.ddiv (FP.i2d j1) (FP.l2d (own_nz jc))))) (FP.l2d (own_nz ja)))), .second] [(.double (FP.ddiv (FP.i2d j1) (FP.l2d (own_nz jc))))])) _
      refine XS.dload X130.here hx rfl (hb hby at_230) rfl ?_
      show Steps p.tables e below (T130.setTop (mkF m 232 #[.val (.int fl), .val (.int ja), .val (.int jb), .val (.int jc), .val (.int j0), .val (.int j1), .val (.int (0 : Int32)), .val (.int (1 : Int32)), .val (.int (0 : Int32)), .val (.int (1 : Int32)), .val (.double (FP.l2d (own_nz ja))), .second, .val (.double (FP.i2d jb)), .second, .val (.double (FP.l2d (own_nz jc))), .second, .val (.ref b15), .val (.ref b19), .val (.ref b34), .val (.ref b50), .val (.ref b64), .val (.ref b79), .val (.int (0 : Int32)), .val (.int (1 : Int32)), .val (.ref r130), .val (.double (FP.ddiv (FP.i2d j1) (FP.l2d (own_nz jc)))), .second, .val (.double (FP.ddiv (FP.dsub (FP.i2d j0) (FP.dmul (FP.i2d jb) (FP.ddiv (FP.i2d j1) (FP.l2d (own_nz jc))))) (FP.l2d (own_nz ja)))), .second] [(.double (FP.ddiv (FP.i2d j1) (FP.l2d (own_nz jc)))), (.double (FP.ddiv (FP.i2d j1) (FP.l2d (own_nz jc))))])) _
      refine XS.dcmpS X130.here hx rfl (hb hby at_232) rfl rfl ?_
      show Steps p.tables e below (T130.setTop (mkF m 233 #[.val (.int fl), .val (.int ja), .val (.int jb), .val (.int jc), .val (.int j0), .val (.int j1), .val (.int (0 : Int32)), .val (.int (1 : Int32)), .val (.int (0 : Int32)), .val (.int (1 : Int32)), .val (.double (FP.l2d (own_nz ja))), .second, .val (.double (FP.i2d jb)), .second, .val (.double (FP.l2d (own_nz jc))), .second, .val (.ref b15), .val (.ref b19), .val (.ref b34), .val (.ref b50), .val (.ref b64), .val (.ref b79), .val (.int (0 : Int32)), .val (.int (1 : Int32)), .val (.ref r130), .val (.double (FP.ddiv (FP.i2d j1) (FP.l2d (own_nz jc)))), .second, .val (.double (FP.ddiv (FP.dsub (FP.i2d j0) (FP.dmul (FP.i2d jb) (FP.ddiv (FP.i2d j1) (FP.l2d (own_nz jc))))) (FP.l2d (own_nz ja)))), .second] [(.int (cmpValue (FP.dcmp (FP.ddiv (FP.i2d j1) (FP.l2d (own_nz jc))) (FP.ddiv (FP.i2d j1) (FP.l2d (own_nz jc)))) .l))])) _
      exact kt
    have K141 : ∀ t, Steps p.tables e below (T130.setTop (mkF m 240 #[.val (.int fl), .val (.int ja), .val (.int jb), .val (.int jc), .val (.int j0), .val (.int j1), .val (.int (0 : Int32)), .val (.int (1 : Int32)), .val (.int (0 : Int32)), .val (.int (1 : Int32)), .val (.double (FP.l2d (own_nz ja))), .second, .val (.double (FP.i2d jb)), .second, .val (.double (FP.l2d (own_nz jc))), .second, .val (.ref b15), .val (.ref b19), .val (.ref b34), .val (.ref b50), .val (.ref b64), .val (.ref b79), .val (.int (0 : Int32)), .val (.int (1 : Int32)), .val (.ref r130), .val (.double (FP.ddiv (FP.i2d j1) (FP.l2d (own_nz jc)))), .second, .val (.double (FP.ddiv (FP.dsub (FP.i2d j0) (FP.dmul (FP.i2d jb) (FP.ddiv (FP.i2d j1) (FP.l2d (own_nz jc))))) (FP.l2d (own_nz ja)))), .second] [(.int (0 : Int32)), (.ref r130)])) t → Steps p.tables e below G0 t := by
      intro t kt
      refine K140 t ?_
      refine XS.ifNo X130.here hx rfl (hb hby at_233) rfl ((if0 _ _).trans (teq (dcmpV_self (own_n1 j1 _ hD) .l)).2) ?_
      show Steps p.tables e below (T130.setTop (mkF m 236 #[.val (.int fl), .val (.int ja), .val (.int jb), .val (.int jc), .val (.int j0), .val (.int j1), .val (.int (0 : Int32)), .val (.int (1 : Int32)), .val (.int (0 : Int32)), .val (.int (1 : Int32)), .val (.double (FP.l2d (own_nz ja))), .second, .val (.double (FP.i2d jb)), .second, .val (.double (FP.l2d (own_nz jc))), .second, .val (.ref b15), .val (.ref b19), .val (.ref b34), .val (.ref b50), .val (.ref b64), .val (.ref b79), .val (.int (0 : Int32)), .val (.int (1 : Int32)), .val (.ref r130), .val (.double (FP.ddiv (FP.i2d j1) (FP.l2d (own_nz jc)))), .second, .val (.double (FP.ddiv (FP.dsub (FP.i2d j0) (FP.dmul (FP.i2d jb) (FP.ddiv (FP.i2d j1) (FP.l2d (own_nz jc))))) (FP.l2d (own_nz ja)))), .second] [])) _
      refine XS.aload X130.here hx rfl (hb hby at_236) rfl rfl ?_
      show Steps p.tables e below (T130.setTop (mkF m 238 #[.val (.int fl), .val (.int ja), .val (.int jb), .val (.int jc), .val (.int j0), .val (.int j1), .val (.int (0 : Int32)), .val (.int (1 : Int32)), .val (.int (0 : Int32)), .val (.int (1 : Int32)), .val (.double (FP.l2d (own_nz ja))), .second, .val (.double (FP.i2d jb)), .second, .val (.double (FP.l2d (own_nz jc))), .second, .val (.ref b15), .val (.ref b19), .val (.ref b34), .val (.ref b50), .val (.ref b64), .val (.ref b79), .val (.int (0 : Int32)), .val (.int (1 : Int32)), .val (.ref r130), .val (.double (FP.ddiv (FP.i2d j1) (FP.l2d (own_nz jc)))), .second, .val (.double (FP.ddiv (FP.dsub (FP.i2d j0) (FP.dmul (FP.i2d jb) (FP.ddiv (FP.i2d j1) (FP.l2d (own_nz jc))))) (FP.l2d (own_nz ja)))), .second] [(.ref r130)])) _
      refine XS.iload X130.here hx rfl (hb hby at_238) rfl ?_
      show Steps p.tables e below (T130.setTop (mkF m 240 #[.val (.int fl), .val (.int ja), .val (.int jb), .val (.int jc), .val (.int j0), .val (.int j1), .val (.int (0 : Int32)), .val (.int (1 : Int32)), .val (.int (0 : Int32)), .val (.int (1 : Int32)), .val (.double (FP.l2d (own_nz ja))), .second, .val (.double (FP.i2d jb)), .second, .val (.double (FP.l2d (own_nz jc))), .second, .val (.ref b15), .val (.ref b19), .val (.ref b34), .val (.ref b50), .val (.ref b64), .val (.ref b79), .val (.int (0 : Int32)), .val (.int (1 : Int32)), .val (.ref r130), .val (.double (FP.ddiv (FP.i2d j1) (FP.l2d (own_nz jc)))), .second, .val (.double (FP.ddiv (FP.dsub (FP.i2d j0) (FP.dmul (FP.i2d jb) (FP.ddiv (FP.i2d j1) (FP.l2d (own_nz jc))))) (FP.l2d (own_nz ja)))), .second] [(.int (0 : Int32)), (.ref r130)])) _
      exact kt
    obtain ⟨cl142, Ar142, qq142, S142, M142, H142, GG142⟩ := id VX130
    have hin142 : ¬ ((0 : Int32) < 0 ∨ cl142.slots.size ≤ ((0 : Int32)).toNatClampNeg) := inb_of S142 ⟨by decide, by decide⟩
    have hat142 : cl142.slots[((0 : Int32)).toNatClampNeg]? = some (.double (FP.ddiv (FP.dsub (FP.i2d j0) (FP.dmul (FP.i2d jb) (FP.ddiv (FP.i2d j1) (FP.l2d (own_nz jc))))) (FP.l2d (own_nz ja)))) := Has.at H142 hin142 rfl
    have K143 : ∀ t, Steps p.tables e below (T130.setTop (mkF m 244 #[.val (.int fl), .val (.int ja), .val (.int jb), .val (.int jc), .val (.int j0), .val (.int j1), .val (.int (0 : Int32)), .val (.int (1 : Int32)), .val (.int (0 : Int32)), .val (.int (1 : Int32)), .val (.double (FP.l2d (own_nz ja))), .second, .val (.double (FP.i2d jb)), .second, .val (.double (FP.l2d (own_nz jc))), .second, .val (.ref b15), .val (.ref b19), .val (.ref b34), .val (.ref b50), .val (.ref b64), .val (.ref b79), .val (.int (0 : Int32)), .val (.int (1 : Int32)), .val (.ref r130), .val (.double (FP.ddiv (FP.i2d j1) (FP.l2d (own_nz jc)))), .second, .val (.double (FP.ddiv (FP.dsub (FP.i2d j0) (FP.dmul (FP.i2d jb) (FP.ddiv (FP.i2d j1) (FP.l2d (own_nz jc))))) (FP.l2d (own_nz ja)))), .second] [(.int (cmpValue (FP.dcmp (FP.ddiv (FP.dsub (FP.i2d j0) (FP.dmul (FP.i2d jb) (FP.ddiv (FP.i2d j1) (FP.l2d (own_nz jc))))) (FP.l2d (own_nz ja))) (FP.ddiv (FP.dsub (FP.i2d j0) (FP.dmul (FP.i2d jb) (FP.ddiv (FP.i2d j1) (FP.l2d (own_nz jc))))) (FP.l2d (own_nz ja)))) .l))])) t → Steps p.tables e below G0 t := by
      intro t kt
      refine K141 t ?_
      refine X130.daload hx (j := (0 : Int32)) (v := (.double (FP.ddiv (FP.dsub (FP.i2d j0) (FP.dmul (FP.i2d jb) (FP.ddiv (FP.i2d j1) (FP.l2d (own_nz jc))))) (FP.l2d (own_nz ja))))) (by rw [(rfl : T130.heap = _)]; exact (Ar142).1) (State.isArrayOf_alike hZ.alike (Ar142).2.1) (Ar142).2.2 hin142 hat142 (g := (mkF m 240 #[.val (.int fl), .val (.int ja), .val (.int jb), .val (.int jc), .val (.int j0), .val (.int j1), .val (.int (0 : Int32)), .val (.int (1 : Int32)), .val (.int (0 : Int32)), .val (.int (1 : Int32)), .val (.double (FP.l2d (own_nz ja))), .second, .val (.double (FP.i2d jb)), .second, .val (.double (FP.l2d (own_nz jc))), .second, .val (.ref b15), .val (.ref b19), .val (.ref b34), .val (.ref b50), .val (.ref b64), .val (.ref b79), .val (.int (0 : Int32)), .val (.int (1 : Int32)), .val (.ref r130), .val (.double (FP.ddiv (FP.i2d j1) (FP.l2d (own_nz jc)))), .second, .val (.double (FP.ddiv (FP.dsub (FP.i2d j0) (FP.dmul (FP.i2d jb) (FP.ddiv (FP.i2d j1) (FP.l2d (own_nz jc))))) (FP.l2d (own_nz ja)))), .second] [(.int (0 : Int32)), (.ref r130)])) rfl rfl (hb hby at_240) _ ?_
      show Steps p.tables e below (T130.setTop (mkF m 241 #[.val (.int fl), .val (.int ja), .val (.int jb), .val (.int jc), .val (.int j0), .val (.int j1), .val (.int (0 : Int32)), .val (.int (1 : Int32)), .val (.int (0 : Int32)), .val (.int (1 : Int32)), .val (.double (FP.l2d (own_nz ja))), .second, .val (.double (FP.i2d jb)), .second, .val (.double (FP.l2d (own_nz jc))), .second, .val (.ref b15), .val (.ref b19), .val (.ref b34), .val (.ref b50), .val (.ref b64), .val (.ref b79), .val (.int (0 : Int32)), .val (.int (1 : Int32)), .val (.ref r130), .val (.double (FP.ddiv (FP.i2d j1) (FP.l2d (own_nz jc)))), .second, .val (.double (FP.ddiv (FP.dsub (FP.i2d j0) (FP.dmul (FP.i2d jb) (FP.ddiv (FP.i2d j1) (FP.l2d (own_nz jc))))) (FP.l2d (own_nz ja)))), .second] [(.double (FP.ddiv (FP.dsub (FP.i2d j0) (FP.dmul (FP.i2d jb) (FP.ddiv (FP.i2d j1) (FP.l2d (own_nz jc))))) (FP.l2d (own_nz ja))))])) _
      refine XS.dload X130.here hx rfl (hb hby at_241) rfl ?_
      show Steps p.tables e below (T130.setTop (mkF m 243 #[.val (.int fl), .val (.int ja), .val (.int jb), .val (.int jc), .val (.int j0), .val (.int j1), .val (.int (0 : Int32)), .val (.int (1 : Int32)), .val (.int (0 : Int32)), .val (.int (1 : Int32)), .val (.double (FP.l2d (own_nz ja))), .second, .val (.double (FP.i2d jb)), .second, .val (.double (FP.l2d (own_nz jc))), .second, .val (.ref b15), .val (.ref b19), .val (.ref b34), .val (.ref b50), .val (.ref b64), .val (.ref b79), .val (.int (0 : Int32)), .val (.int (1 : Int32)), .val (.ref r130), .val (.double (FP.ddiv (FP.i2d j1) (FP.l2d (own_nz jc)))), .second, .val (.double (FP.ddiv (FP.dsub (FP.i2d j0) (FP.dmul (FP.i2d jb) (FP.ddiv (FP.i2d j1) (FP.l2d (own_nz jc))))) (FP.l2d (own_nz ja)))), .second] [(.double (FP.ddiv (FP.dsub (FP.i2d j0) (FP.dmul (FP.i2d jb) (FP.ddiv (FP.i2d j1) (FP.l2d (own_nz jc))))) (FP.l2d (own_nz ja)))), (.double (FP.ddiv (FP.dsub (FP.i2d j0) (FP.dmul (FP.i2d jb) (FP.ddiv (FP.i2d j1) (FP.l2d (own_nz jc))))) (FP.l2d (own_nz ja))))])) _
      refine XS.dcmpS X130.here hx rfl (hb hby at_243) rfl rfl ?_
      show Steps p.tables e below (T130.setTop (mkF m 244 #[.val (.int fl), .val (.int ja), .val (.int jb), .val (.int jc), .val (.int j0), .val (.int j1), .val (.int (0 : Int32)), .val (.int (1 : Int32)), .val (.int (0 : Int32)), .val (.int (1 : Int32)), .val (.double (FP.l2d (own_nz ja))), .second, .val (.double (FP.i2d jb)), .second, .val (.double (FP.l2d (own_nz jc))), .second, .val (.ref b15), .val (.ref b19), .val (.ref b34), .val (.ref b50), .val (.ref b64), .val (.ref b79), .val (.int (0 : Int32)), .val (.int (1 : Int32)), .val (.ref r130), .val (.double (FP.ddiv (FP.i2d j1) (FP.l2d (own_nz jc)))), .second, .val (.double (FP.ddiv (FP.dsub (FP.i2d j0) (FP.dmul (FP.i2d jb) (FP.ddiv (FP.i2d j1) (FP.l2d (own_nz jc))))) (FP.l2d (own_nz ja)))), .second] [(.int (cmpValue (FP.dcmp (FP.ddiv (FP.dsub (FP.i2d j0) (FP.dmul (FP.i2d jb) (FP.ddiv (FP.i2d j1) (FP.l2d (own_nz jc))))) (FP.l2d (own_nz ja))) (FP.ddiv (FP.dsub (FP.i2d j0) (FP.dmul (FP.i2d jb) (FP.ddiv (FP.i2d j1) (FP.l2d (own_nz jc))))) (FP.l2d (own_nz ja)))) .l))])) _
      exact kt
    have K144 : ∀ t, Steps p.tables e below (T130.setTop (mkF m 252 #[.val (.int fl), .val (.int ja), .val (.int jb), .val (.int jc), .val (.int j0), .val (.int j1), .val (.int (0 : Int32)), .val (.int (1 : Int32)), .val (.int (0 : Int32)), .val (.int (1 : Int32)), .val (.double (FP.l2d (own_nz ja))), .second, .val (.double (FP.i2d jb)), .second, .val (.double (FP.l2d (own_nz jc))), .second, .val (.ref b15), .val (.ref b19), .val (.ref b34), .val (.ref b50), .val (.ref b64), .val (.ref b79), .val (.int (0 : Int32)), .val (.int (1 : Int32)), .val (.ref r130), .val (.double (FP.ddiv (FP.i2d j1) (FP.l2d (own_nz jc)))), .second, .val (.double (FP.ddiv (FP.dsub (FP.i2d j0) (FP.dmul (FP.i2d jb) (FP.ddiv (FP.i2d j1) (FP.l2d (own_nz jc))))) (FP.l2d (own_nz ja)))), .second] [(.int (1 : Int32))])) t → Steps p.tables e below G0 t := by
      intro t kt
      refine K143 t ?_
      refine XS.ifNo X130.here hx rfl (hb hby at_244) rfl ((if0 _ _).trans (teq (dcmpV_self (own_n4 j0 jb j1 _ _ hD hA) .l)).2) ?_
      show Steps p.tables e below (T130.setTop (mkF m 247 #[.val (.int fl), .val (.int ja), .val (.int jb), .val (.int jc), .val (.int j0), .val (.int j1), .val (.int (0 : Int32)), .val (.int (1 : Int32)), .val (.int (0 : Int32)), .val (.int (1 : Int32)), .val (.double (FP.l2d (own_nz ja))), .second, .val (.double (FP.i2d jb)), .second, .val (.double (FP.l2d (own_nz jc))), .second, .val (.ref b15), .val (.ref b19), .val (.ref b34), .val (.ref b50), .val (.ref b64), .val (.ref b79), .val (.int (0 : Int32)), .val (.int (1 : Int32)), .val (.ref r130), .val (.double (FP.ddiv (FP.i2d j1) (FP.l2d (own_nz jc)))), .second, .val (.double (FP.ddiv (FP.dsub (FP.i2d j0) (FP.dmul (FP.i2d jb) (FP.ddiv (FP.i2d j1) (FP.l2d (own_nz jc))))) (FP.l2d (own_nz ja)))), .second] [])) _
      refine XS.iconst X130.here hx rfl (hb hby at_247) ?_
      show Steps p.tables e below (T130.setTop (mkF m 248 #[.val (.int fl), .val (.int ja), .val (.int jb), .val (.int jc), .val (.int j0), .val (.int j1), .val (.int (0 : Int32)), .val (.int (1 : Int32)), .val (.int (0 : Int32)), .val (.int (1 : Int32)), .val (.double (FP.l2d (own_nz ja))), .second, .val (.double (FP.i2d jb)), .second, .val (.double (FP.l2d (own_nz jc))), .second, .val (.ref b15), .val (.ref b19), .val (.ref b34), .val (.ref b50), .val (.ref b64), .val (.ref b79), .val (.int (0 : Int32)), .val (.int (1 : Int32)), .val (.ref r130), .val (.double (FP.ddiv (FP.i2d j1) (FP.l2d (own_nz jc)))), .second, .val (.double (FP.ddiv (FP.dsub (FP.i2d j0) (FP.dmul (FP.i2d jb) (FP.ddiv (FP.i2d j1) (FP.l2d (own_nz jc))))) (FP.l2d (own_nz ja)))), .second] [(.int (1 : Int32))])) _
      refine XS.goto X130.here hx rfl (pc0 := 248) (pc' := 252) rfl (hb hby at_248) (by decide) (by decide) ?_
      show Steps p.tables e below (T130.setTop (mkF m 252 #[.val (.int fl), .val (.int ja), .val (.int jb), .val (.int jc), .val (.int j0), .val (.int j1), .val (.int (0 : Int32)), .val (.int (1 : Int32)), .val (.int (0 : Int32)), .val (.int (1 : Int32)), .val (.double (FP.l2d (own_nz ja))), .second, .val (.double (FP.i2d jb)), .second, .val (.double (FP.l2d (own_nz jc))), .second, .val (.ref b15), .val (.ref b19), .val (.ref b34), .val (.ref b50), .val (.ref b64), .val (.ref b79), .val (.int (0 : Int32)), .val (.int (1 : Int32)), .val (.ref r130), .val (.double (FP.ddiv (FP.i2d j1) (FP.l2d (own_nz jc)))), .second, .val (.double (FP.ddiv (FP.dsub (FP.i2d j0) (FP.dmul (FP.i2d jb) (FP.ddiv (FP.i2d j1) (FP.l2d (own_nz jc))))) (FP.l2d (own_nz ja)))), .second] [(.int (1 : Int32))])) _
      exact kt
    obtain ⟨fs, hr, hrun, hended, hW, hsame⟩ := X130.leave (v := some (.int (1 : Int32))) (fun h => by rw [Bd.returns] at h; cases h)
    refine ⟨_, _, ?_, hrun, hended, _, _, rfl, ?_, ⟨_, rfl⟩, hW, hsame.mono (by decide) (by decide)⟩
    · rw [← hG0]
      refine K144 _ ?_
      exact retN X130 hx (t := .boolean) Bd.returns (by simp) (hb hby at_252) hr
    · show Q0 Z fl ja jb jc j0 j1 h0 n0 _ T130.heap _
      exact ⟨rfl, N130⟩
  ·
    have FAx145 : own_Fac Z T113.heap b15 rb17 ml17 ln17 pe17 pu17 pc17 kr17 km17 kl17 ke17 ku17 kc17 (2 : Int32) (2 : Int32) (0 : Int64) [.null, .null] [.null, .null] [(.int (0 : Int32)), (.int (0 : Int32))] [(.int (0 : Int32)), (.int (1 : Int32))] [(.ref b19), (.ref b50)] [(.ref b34), (.ref b64)] := ⟨fc113_0, fc113_1, fc113_2, fc113_3, fc113_4, fc113_5, fc113_6, fc113_7, fc113_8, fc113_9, fc113_10, fc113_11, fc113_12, fc113_13, fc113_14, fc113_15⟩
    obtain ⟨cq146, kq146, q146a, q146b, q146c⟩ := isOf hZ e116 fc113_0
    obtain ⟨_, _, ⟨T147, L147, k147, n147⟩, -, X147, ⟨Lc147, hQ147, l147, y147, z147⟩, st147⟩ := X116.virtualBack hx (y := (⟨"com/example/sondage/sondage/inference/Factorization", "solve", "([D)[D"⟩ : MethodName)) (z := (⟨"com/example/sondage/sondage/inference/Factorization", "solve", "([D)[D"⟩ : MethodName)) hown (mvT hZ (hw _ (List.mem_of_getElem? (i := 52) rfl))) (mvT hZ (hw _ (List.mem_of_getElem? (i := 53) rfl))) (notFace_of_selects (args := #[]) (mvT hZ (hw _ (List.mem_of_getElem? (i := 55) rfl)))) (mvT hZ (hw _ (List.mem_of_getElem? (i := 55) rfl))) (mvT hZ (hw _ (List.mem_of_getElem? (i := 54) rfl))) (by decide) (backOf (W := 0) (rm6_01 l Z aa hw [] (b15) (b79) rb17 ml17 ln17 pe17 pu17 pc17 b19 b50 b34 b64 kr17 km17 kl17 ke17 ku17 kc17 _ _ _ _ _ (0 : Int64) [.null, .null] [.null, .null] (FP.i2d j0) (FP.i2d j1) (FP.l2d (own_nz ja)) (FP.i2d jb) (FP.l2d (own_nz jc)) T113.heap n0 Z113 FAx145 f126 f118 f122 f120 f124 (own_n1 j1 _ hD) (own_n2 jb j1 _ hD) (own_n3 j0 jb j1 _ hD) (own_n4 j0 jb j1 _ _ hD hA)) hZ (hw _ (List.mem_of_getElem? (i := 56) rfl)) (hw _ (List.mem_of_getElem? (i := 2) rfl)) (by decide) (by decide)) q146a q146c (g := (mkF m 187 #[.val (.int fl), .val (.int ja), .val (.int jb), .val (.int jc), .val (.int j0), .val (.int j1), .val (.int (0 : Int32)), .val (.int (1 : Int32)), .val (.int (1 : Int32)), .val (.int (0 : Int32)), .val (.double (FP.l2d (own_nz ja))), .second, .val (.double (FP.i2d jb)), .second, .val (.double (FP.l2d (own_nz jc))), .second, .val (.ref b15), .val (.ref b19), .val (.ref b34), .val (.ref b50), .val (.ref b64), .val (.ref b79), .val (.int (0 : Int32)), .val (.int (1 : Int32)), .unset, .unset, .unset, .unset, .unset] [(.ref b79), (.ref b15)])) rfl (by rw [hml]; rfl) (Steps.refl _) (argsL := [(.ref b79)]) (rest := []) (lenOf pd_P_DQ_D rfl) rfl (by show 2 * 0 + _ ≤ _; exact Nat.le_of_eq rfl) (hb hby at_187) (fun _ _ => ⟨rfl, e116, (by decide : 13 + 2 ≤ _), (by decide : 32 + 4 ≤ _)⟩)
    dsimp only [Pt.U, Pt.locs, Pt.cells, Pt.slots] at X147 l147 y147 z147 st147 hQ147
    subst l147 y147 z147
    obtain ⟨r147, kx147, rfl, N147q, KV147, VX147⟩ := hQ147
    have N147 := Fr.app N116 N147q
    have K147 : ∀ t, Steps p.tables e below (T147.setTop (mkF m 190 #[.val (.int fl), .val (.int ja), .val (.int jb), .val (.int jc), .val (.int j0), .val (.int j1), .val (.int (0 : Int32)), .val (.int (1 : Int32)), .val (.int (1 : Int32)), .val (.int (0 : Int32)), .val (.double (FP.l2d (own_nz ja))), .second, .val (.double (FP.i2d jb)), .second, .val (.double (FP.l2d (own_nz jc))), .second, .val (.ref b15), .val (.ref b19), .val (.ref b34), .val (.ref b50), .val (.ref b64), .val (.ref b79), .val (.int (0 : Int32)), .val (.int (1 : Int32)), .unset, .unset, .unset, .unset, .unset] [(.ref r147)])) t → Steps p.tables e below G0 t := fun t kt => K117 t (st147.trans kt)
    have Z147 : n0 ≤ T147.heap.size := Nat.le_trans Z113 KV147.1
    have K148 : ∀ t, Steps p.tables e below (T147.setTop (mkF m 196 #[.val (.int fl), .val (.int ja), .val (.int jb), .val (.int jc), .val (.int j0), .val (.int j1), .val (.int (0 : Int32)), .val (.int (1 : Int32)), .val (.int (1 : Int32)), .val (.int (0 : Int32)), .val (.double (FP.l2d (own_nz ja))), .second, .val (.double (FP.i2d jb)), .second, .val (.double (FP.l2d (own_nz jc))), .second, .val (.ref b15), .val (.ref b19), .val (.ref b34), .val (.ref b50), .val (.ref b64), .val (.ref b79), .val (.int (0 : Int32)), .val (.int (1 : Int32)), .val (.ref r147), .unset, .unset, .unset, .unset] [(.int (1 : Int32)), (.ref b79)])) t → Steps p.tables e below G0 t := by
      intro t kt
      refine K147 t ?_
      refine XS.astore X147.here hx rfl (hb hby at_190) rfl rfl (l' := #[.val (.int fl), .val (.int ja), .val (.int jb), .val (.int jc), .val (.int j0), .val (.int j1), .val (.int (0 : Int32)), .val (.int (1 : Int32)), .val (.int (1 : Int32)), .val (.int (0 : Int32)), .val (.double (FP.l2d (own_nz ja))), .second, .val (.double (FP.i2d jb)), .second, .val (.double (FP.l2d (own_nz jc))), .second, .val (.ref b15), .val (.ref b19), .val (.ref b34), .val (.ref b50), .val (.ref b64), .val (.ref b79), .val (.int (0 : Int32)), .val (.int (1 : Int32)), .val (.ref r147), .unset, .unset, .unset, .unset]) rfl ?_
      show Steps p.tables e below (T147.setTop (mkF m 192 #[.val (.int fl), .val (.int ja), .val (.int jb), .val (.int jc), .val (.int j0), .val (.int j1), .val (.int (0 : Int32)), .val (.int (1 : Int32)), .val (.int (1 : Int32)), .val (.int (0 : Int32)), .val (.double (FP.l2d (own_nz ja))), .second, .val (.double (FP.i2d jb)), .second, .val (.double (FP.l2d (own_nz jc))), .second, .val (.ref b15), .val (.ref b19), .val (.ref b34), .val (.ref b50), .val (.ref b64), .val (.ref b79), .val (.int (0 : Int32)), .val (.int (1 : Int32)), .val (.ref r147), .unset, .unset, .unset, .unset] [])) _
      refine XS.aload X147.here hx rfl (hb hby at_192) rfl rfl ?_
      show Steps p.tables e below (T147.setTop (mkF m 194 #[.val (.int fl), .val (.int ja), .val (.int jb), .val (.int jc), .val (.int j0), .val (.int j1), .val (.int (0 : Int32)), .val (.int (1 : Int32)), .val (.int (1 : Int32)), .val (.int (0 : Int32)), .val (.double (FP.l2d (own_nz ja))), .second, .val (.double (FP.i2d jb)), .second, .val (.double (FP.l2d (own_nz jc))), .second, .val (.ref b15), .val (.ref b19), .val (.ref b34), .val (.ref b50), .val (.ref b64), .val (.ref b79), .val (.int (0 : Int32)), .val (.int (1 : Int32)), .val (.ref r147), .unset, .unset, .unset, .unset] [(.ref b79)])) _
      refine XS.iload X147.here hx rfl (hb hby at_194) rfl ?_
      show Steps p.tables e below (T147.setTop (mkF m 196 #[.val (.int fl), .val (.int ja), .val (.int jb), .val (.int jc), .val (.int j0), .val (.int j1), .val (.int (0 : Int32)), .val (.int (1 : Int32)), .val (.int (1 : Int32)), .val (.int (0 : Int32)), .val (.double (FP.l2d (own_nz ja))), .second, .val (.double (FP.i2d jb)), .second, .val (.double (FP.l2d (own_nz jc))), .second, .val (.ref b15), .val (.ref b19), .val (.ref b34), .val (.ref b50), .val (.ref b64), .val (.ref b79), .val (.int (0 : Int32)), .val (.int (1 : Int32)), .val (.ref r147), .unset, .unset, .unset, .unset] [(.int (1 : Int32)), (.ref b79)])) _
      exact kt
    have f149 := (f126.keep KV147 (fun q => nomatch q))
    obtain ⟨cl150, Ar150, qq150, S150, M150, H150, GG150⟩ := id f149
    have hin150 : ¬ ((1 : Int32) < 0 ∨ cl150.slots.size ≤ ((1 : Int32)).toNatClampNeg) := inb_of S150 ⟨by decide, by decide⟩
    have hat150 : cl150.slots[((1 : Int32)).toNatClampNeg]? = some (.double (FP.i2d j1)) := Has.at H150 hin150 rfl
    have K151 : ∀ t, Steps p.tables e below (T147.setTop (mkF m 206 #[.val (.int fl), .val (.int ja), .val (.int jb), .val (.int jc), .val (.int j0), .val (.int j1), .val (.int (0 : Int32)), .val (.int (1 : Int32)), .val (.int (1 : Int32)), .val (.int (0 : Int32)), .val (.double (FP.l2d (own_nz ja))), .second, .val (.double (FP.i2d jb)), .second, .val (.double (FP.l2d (own_nz jc))), .second, .val (.ref b15), .val (.ref b19), .val (.ref b34), .val (.ref b50), .val (.ref b64), .val (.ref b79), .val (.int (0 : Int32)), .val (.int (1 : Int32)), .val (.ref r147), .val (.double (FP.ddiv (FP.i2d j1) (FP.l2d (own_nz jc)))), .second, .unset, .unset] [(.int (0 : Int32)), (.ref b79)])) t → Steps p.tables e below G0 t := by
      intro t kt
      refine K148 t ?_
      refine X147.daload hx (j := (1 : Int32)) (v := (.double (FP.i2d j1))) (by rw [(rfl : T147.heap = _)]; exact (Ar150).1) (State.isArrayOf_alike hZ.alike (Ar150).2.1) (Ar150).2.2 hin150 hat150 (g := (mkF m 196 #[.val (.int fl), .val (.int ja), .val (.int jb), .val (.int jc), .val (.int j0), .val (.int j1), .val (.int (0 : Int32)), .val (.int (1 : Int32)), .val (.int (1 : Int32)), .val (.int (0 : Int32)), .val (.double (FP.l2d (own_nz ja))), .second, .val (.double (FP.i2d jb)), .second, .val (.double (FP.l2d (own_nz jc))), .second, .val (.ref b15), .val (.ref b19), .val (.ref b34), .val (.ref b50), .val (.ref b64), .val (.ref b79), .val (.int (0 : Int32)), .val (.int (1 : Int32)), .val (.ref r147), .unset, .unset, .unset, .unset] [(.int (1 : Int32)), (.ref b79)])) rfl rfl (hb hby at_196) _ ?_
      show Steps p.tables e below (T147.setTop (mkF m 197 #[.val (.int fl), .val (.int ja), .val (.int jb), .val (.int jc), .val (.int j0), .val (.int j1), .val (.int (0 : Int32)), .val (.int (1 : Int32)), .val (.int (1 : Int32)), .val (.int (0 : Int32)), .val (.double (FP.l2d (own_nz ja))), .second, .val (.double (FP.i2d jb)), .second, .val (.double (FP.l2d (own_nz jc))), .second, .val (.ref b15), .val (.ref b19), .val (.ref b34), .val (.ref b50), .val (.ref b64), .val (.ref b79), .val (.int (0 : Int32)), .val (.int (1 : Int32)), .val (.ref r147), .unset, .unset, .unset, .unset] [(.double (FP.i2d j1))])) _
      refine XS.dload X147.here hx rfl (hb hby at_197) rfl ?_
      show Steps p.tables e below (T147.setTop (mkF m 199 #[.val (.int fl), .val (.int ja), .val (.int jb), .val (.int jc), .val (.int j0), .val (.int j1), .val (.int (0 : Int32)), .val (.int (1 : Int32)), .val (.int (1 : Int32)), .val (.int (0 : Int32)), .val (.double (FP.l2d (own_nz ja))), .second, .val (.double (FP.i2d jb)), .second, .val (.double (FP.l2d (own_nz jc))), .second, .val (.ref b15), .val (.ref b19), .val (.ref b34), .val (.ref b50), .val (.ref b64), .val (.ref b79), .val (.int (0 : Int32)), .val (.int (1 : Int32)), .val (.ref r147), .unset, .unset, .unset, .unset] [(.double (FP.l2d (own_nz jc))), (.double (FP.i2d j1))])) _
      refine XS.ddivS X147.here hx rfl (hb hby at_199) rfl (own_n1 j1 _ hD) rfl ?_
      show Steps p.tables e below (T147.setTop (mkF m 200 #[.val (.int fl), .val (.int ja), .val (.int jb), .val (.int jc), .val (.int j0), .val (.int j1), .val (.int (0 : Int32)), .val (.int (1 : Int32)), .val (.int (1 : Int32)), .val (.int (0 : Int32)), .val (.double (FP.l2d (own_nz ja))), .second, .val (.double (FP.i2d jb)), .second, .val (.double (FP.l2d (own_nz jc))), .second, .val (.ref b15), .val (.ref b19), .val (.ref b34), .val (.ref b50), .val (.ref b64), .val (.ref b79), .val (.int (0 : Int32)), .val (.int (1 : Int32)), .val (.ref r147), .unset, .unset, .unset, .unset] [(.double (FP.ddiv (FP.i2d j1) (FP.l2d (own_nz jc))))])) _
      refine XS.dstore X147.here hx rfl (hb hby at_200) rfl (l' := #[.val (.int fl), .val (.int ja), .val (.int jb), .val (.int jc), .val (.int j0), .val (.int j1), .val (.int (0 : Int32)), .val (.int (1 : Int32)), .val (.int (1 : Int32)), .val (.int (0 : Int32)), .val (.double (FP.l2d (own_nz ja))), .second, .val (.double (FP.i2d jb)), .second, .val (.double (FP.l2d (own_nz jc))), .second, .val (.ref b15), .val (.ref b19), .val (.ref b34), .val (.ref b50), .val (.ref b64), .val (.ref b79), .val (.int (0 : Int32)), .val (.int (1 : Int32)), .val (.ref r147), .val (.double (FP.ddiv (FP.i2d j1) (FP.l2d (own_nz jc)))), .second, .unset, .unset]) rfl ?_
      show Steps p.tables e below (T147.setTop (mkF m 202 #[.val (.int fl), .val (.int ja), .val (.int jb), .val (.int jc), .val (.int j0), .val (.int j1), .val (.int (0 : Int32)), .val (.int (1 : Int32)), .val (.int (1 : Int32)), .val (.int (0 : Int32)), .val (.double (FP.l2d (own_nz ja))), .second, .val (.double (FP.i2d jb)), .second, .val (.double (FP.l2d (own_nz jc))), .second, .val (.ref b15), .val (.ref b19), .val (.ref b34), .val (.ref b50), .val (.ref b64), .val (.ref b79), .val (.int (0 : Int32)), .val (.int (1 : Int32)), .val (.ref r147), .val (.double (FP.ddiv (FP.i2d j1) (FP.l2d (own_nz jc)))), .second, .unset, .unset] [])) _
      refine XS.aload X147.here hx rfl (hb hby at_202) rfl rfl ?_
      show Steps p.tables e below (T147.setTop (mkF m 204 #[.val (.int fl), .val (.int ja), .val (.int jb), .val (.int jc), .val (.int j0), .val (.int j1), .val (.int (0 : Int32)), .val (.int (1 : Int32)), .val (.int (1 : Int32)), .val (.int (0 : Int32)), .val (.double (FP.l2d (own_nz ja))), .second, .val (.double (FP.i2d jb)), .second, .val (.double (FP.l2d (own_nz jc))), .second, .val (.ref b15), .val (.ref b19), .val (.ref b34), .val (.ref b50), .val (.ref b64), .val (.ref b79), .val (.int (0 : Int32)), .val (.int (1 : Int32)), .val (.ref r147), .val (.double (FP.ddiv (FP.i2d j1) (FP.l2d (own_nz jc)))), .second, .unset, .unset] [(.ref b79)])) _
      refine XS.iload X147.here hx rfl (hb hby at_204) rfl ?_
      show Steps p.tables e below (T147.setTop (mkF m 206 #[.val (.int fl), .val (.int ja), .val (.int jb), .val (.int jc), .val (.int j0), .val (.int j1), .val (.int (0 : Int32)), .val (.int (1 : Int32)), .val (.int (1 : Int32)), .val (.int (0 : Int32)), .val (.double (FP.l2d (own_nz ja))), .second, .val (.double (FP.i2d jb)), .second, .val (.double (FP.l2d (own_nz jc))), .second, .val (.ref b15), .val (.ref b19), .val (.ref b34), .val (.ref b50), .val (.ref b64), .val (.ref b79), .val (.int (0 : Int32)), .val (.int (1 : Int32)), .val (.ref r147), .val (.double (FP.ddiv (FP.i2d j1) (FP.l2d (own_nz jc)))), .second, .unset, .unset] [(.int (0 : Int32)), (.ref b79)])) _
      exact kt
    obtain ⟨cl152, Ar152, qq152, S152, M152, H152, GG152⟩ := id f149
    have hin152 : ¬ ((0 : Int32) < 0 ∨ cl152.slots.size ≤ ((0 : Int32)).toNatClampNeg) := inb_of S152 ⟨by decide, by decide⟩
    have hat152 : cl152.slots[((0 : Int32)).toNatClampNeg]? = some (.double (FP.i2d j0)) := Has.at H152 hin152 rfl
    have K153 : ∀ t, Steps p.tables e below (T147.setTop (mkF m 220 #[.val (.int fl), .val (.int ja), .val (.int jb), .val (.int jc), .val (.int j0), .val (.int j1), .val (.int (0 : Int32)), .val (.int (1 : Int32)), .val (.int (1 : Int32)), .val (.int (0 : Int32)), .val (.double (FP.l2d (own_nz ja))), .second, .val (.double (FP.i2d jb)), .second, .val (.double (FP.l2d (own_nz jc))), .second, .val (.ref b15), .val (.ref b19), .val (.ref b34), .val (.ref b50), .val (.ref b64), .val (.ref b79), .val (.int (0 : Int32)), .val (.int (1 : Int32)), .val (.ref r147), .val (.double (FP.ddiv (FP.i2d j1) (FP.l2d (own_nz jc)))), .second, .val (.double (FP.ddiv (FP.dsub (FP.i2d j0) (FP.dmul (FP.i2d jb) (FP.ddiv (FP.i2d j1) (FP.l2d (own_nz jc))))) (FP.l2d (own_nz ja)))), .second] [(.ref r147)])) t → Steps p.tables e below G0 t := by
      intro t kt
      refine K151 t ?_
      refine X147.daload hx (j := (0 : Int32)) (v := (.double (FP.i2d j0))) (by rw [(rfl : T147.heap = _)]; exact (Ar152).1) (State.isArrayOf_alike hZ.alike (Ar152).2.1) (Ar152).2.2 hin152 hat152 (g := (mkF m 206 #[.val (.int fl), .val (.int ja), .val (.int jb), .val (.int jc), .val (.int j0), .val (.int j1), .val (.int (0 : Int32)), .val (.int (1 : Int32)), .val (.int (1 : Int32)), .val (.int (0 : Int32)), .val (.double (FP.l2d (own_nz ja))), .second, .val (.double (FP.i2d jb)), .second, .val (.double (FP.l2d (own_nz jc))), .second, .val (.ref b15), .val (.ref b19), .val (.ref b34), .val (.ref b50), .val (.ref b64), .val (.ref b79), .val (.int (0 : Int32)), .val (.int (1 : Int32)), .val (.ref r147), .val (.double (FP.ddiv (FP.i2d j1) (FP.l2d (own_nz jc)))), .second, .unset, .unset] [(.int (0 : Int32)), (.ref b79)])) rfl rfl (hb hby at_206) _ ?_
      show Steps p.tables e below (T147.setTop (mkF m 207 #[.val (.int fl), .val (.int ja), .val (.int jb), .val (.int jc), .val (.int j0), .val (.int j1), .val (.int (0 : Int32)), .val (.int (1 : Int32)), .val (.int (1 : Int32)), .val (.int (0 : Int32)), .val (.double (FP.l2d (own_nz ja))), .second, .val (.double (FP.i2d jb)), .second, .val (.double (FP.l2d (own_nz jc))), .second, .val (.ref b15), .val (.ref b19), .val (.ref b34), .val (.ref b50), .val (.ref b64), .val (.ref b79), .val (.int (0 : Int32)), .val (.int (1 : Int32)), .val (.ref r147), .val (.double (FP.ddiv (FP.i2d j1) (FP.l2d (own_nz jc)))), .second, .unset, .unset] [(.double (FP.i2d j0))])) _
      refine XS.dload X147.here hx rfl (hb hby at_207) rfl ?_
      show Steps p.tables e below (T147.setTop (mkF m 209 #[.val (.int fl), .val (.int ja), .val (.int jb), .val (.int jc), .val (.int j0), .val (.int j1), .val (.int (0 : Int32)), .val (.int (1 : Int32)), .val (.int (1 : Int32)), .val (.int (0 : Int32)), .val (.double (FP.l2d (own_nz ja))), .second, .val (.double (FP.i2d jb)), .second, .val (.double (FP.l2d (own_nz jc))), .second, .val (.ref b15), .val (.ref b19), .val (.ref b34), .val (.ref b50), .val (.ref b64), .val (.ref b79), .val (.int (0 : Int32)), .val (.int (1 : Int32)), .val (.ref r147), .val (.double (FP.ddiv (FP.i2d j1) (FP.l2d (own_nz jc)))), .second, .unset, .unset] [(.double (FP.i2d jb)), (.double (FP.i2d j0))])) _
      refine XS.dload X147.here hx rfl (hb hby at_209) rfl ?_
      show Steps p.tables e below (T147.setTop (mkF m 211 #[.val (.int fl), .val (.int ja), .val (.int jb), .val (.int jc), .val (.int j0), .val (.int j1), .val (.int (0 : Int32)), .val (.int (1 : Int32)), .val (.int (1 : Int32)), .val (.int (0 : Int32)), .val (.double (FP.l2d (own_nz ja))), .second, .val (.double (FP.i2d jb)), .second, .val (.double (FP.l2d (own_nz jc))), .second, .val (.ref b15), .val (.ref b19), .val (.ref b34), .val (.ref b50), .val (.ref b64), .val (.ref b79), .val (.int (0 : Int32)), .val (.int (1 : Int32)), .val (.ref r147), .val (.double (FP.ddiv (FP.i2d j1) (FP.l2d (own_nz jc)))), .second, .unset, .unset] [(.double (FP.ddiv (FP.i2d j1) (FP.l2d (own_nz jc)))), (.double (FP.i2d jb)), (.double (FP.i2d j0))])) _
      refine XS.dmulS X147.here hx rfl (hb hby at_211) rfl (own_n2 jb j1 _ hD) rfl ?_
      show Steps p.tables e below (T147.setTop (mkF m 212 #[.val (.int fl), .val (.int ja), .val (.int jb), .val (.int jc), .val (.int j0), .val (.int j1), .val (.int (0 : Int32)), .val (.int (1 : Int32)), .val (.int (1 : Int32)), .val (.int (0 : Int32)), .val (.double (FP.l2d (own_nz ja))), .second, .val (.double (FP.i2d jb)), .second, .val (.double (FP.l2d (own_nz jc))), .second, .val (.ref b15), .val (.ref b19), .val (.ref b34), .val (.ref b50), .val (.ref b64), .val (.ref b79), .val (.int (0 : Int32)), .val (.int (1 : Int32)), .val (.ref r147), .val (.double (FP.ddiv (FP.i2d j1) (FP.l2d (own_nz jc)))), .second, .unset, .unset] [(.double (FP.dmul (FP.i2d jb) (FP.ddiv (FP.i2d j1) (FP.l2d (own_nz jc))))), (.double (FP.i2d j0))])) _
      refine XS.dsubS X147.here hx rfl (hb hby at_212) rfl (own_n3 j0 jb j1 _ hD) rfl ?_
      show Steps p.tables e below (T147.setTop (mkF m 213 #[.val (.int fl), .val (.int ja), .val (.int jb), .val (.int jc), .val (.int j0), .val (.int j1), .val (.int (0 : Int32)), .val (.int (1 : Int32)), .val (.int (1 : Int32)), .val (.int (0 : Int32)), .val (.double (FP.l2d (own_nz ja))), .second, .val (.double (FP.i2d jb)), .second, .val (.double (FP.l2d (own_nz jc))), .second, .val (.ref b15), .val (.ref b19), .val (.ref b34), .val (.ref b50), .val (.ref b64), .val (.ref b79), .val (.int (0 : Int32)), .val (.int (1 : Int32)), .val (.ref r147), .val (.double (FP.ddiv (FP.i2d j1) (FP.l2d (own_nz jc)))), .second, .unset, .unset] [(.double (FP.dsub (FP.i2d j0) (FP.dmul (FP.i2d jb) (FP.ddiv (FP.i2d j1) (FP.l2d (own_nz jc))))))])) _
      refine XS.dload X147.here hx rfl (hb hby at_213) rfl ?_
      show Steps p.tables e below (T147.setTop (mkF m 215 #[.val (.int fl), .val (.int ja), .val (.int jb), .val (.int jc), .val (.int j0), .val (.int j1), .val (.int (0 : Int32)), .val (.int (1 : Int32)), .val (.int (1 : Int32)), .val (.int (0 : Int32)), .val (.double (FP.l2d (own_nz ja))), .second, .val (.double (FP.i2d jb)), .second, .val (.double (FP.l2d (own_nz jc))), .second, .val (.ref b15), .val (.ref b19), .val (.ref b34), .val (.ref b50), .val (.ref b64), .val (.ref b79), .val (.int (0 : Int32)), .val (.int (1 : Int32)), .val (.ref r147), .val (.double (FP.ddiv (FP.i2d j1) (FP.l2d (own_nz jc)))), .second, .unset, .unset] [(.double (FP.l2d (own_nz ja))), (.double (FP.dsub (FP.i2d j0) (FP.dmul (FP.i2d jb) (FP.ddiv (FP.i2d j1) (FP.l2d (own_nz jc))))))])) _
      refine XS.ddivS X147.here hx rfl (hb hby at_215) rfl (own_n4 j0 jb j1 _ _ hD hA) rfl ?_
      show Steps p.tables e below (T147.setTop (mkF m 216 #[.val (.int fl), .val (.int ja), .val (.int jb), .val (.int jc), .val (.int j0), .val (.int j1), .val (.int (0 : Int32)), .val (.int (1 : Int32)), .val (.int (1 : Int32)), .val (.int (0 : Int32)), .val (.double (FP.l2d (own_nz ja))), .second, .val (.double (FP.i2d jb)), .second, .val (.double (FP.l2d (own_nz jc))), .second, .val (.ref b15), .val (.ref b19), .val (.ref b34), .val (.ref b50), .val (.ref b64), .val (.ref b79), .val (.int (0 : Int32)), .val (.int (1 : Int32)), .val (.ref r147), .val (.double (FP.ddiv (FP.i2d j1) (FP.l2d (own_nz jc)))), .second, .unset, .unset] [(.double (FP.ddiv (FP.dsub (FP.i2d j0) (FP.dmul (FP.i2d jb) (FP.ddiv (FP.i2d j1) (FP.l2d (own_nz jc))))) (FP.l2d (own_nz ja))))])) _
      refine XS.dstore X147.here hx rfl (hb hby at_216) rfl (l' := #[.val (.int fl), .val (.int ja), .val (.int jb), .val (.int jc), .val (.int j0), .val (.int j1), .val (.int (0 : Int32)), .val (.int (1 : Int32)), .val (.int (1 : Int32)), .val (.int (0 : Int32)), .val (.double (FP.l2d (own_nz ja))), .second, .val (.double (FP.i2d jb)), .second, .val (.double (FP.l2d (own_nz jc))), .second, .val (.ref b15), .val (.ref b19), .val (.ref b34), .val (.ref b50), .val (.ref b64), .val (.ref b79), .val (.int (0 : Int32)), .val (.int (1 : Int32)), .val (.ref r147), .val (.double (FP.ddiv (FP.i2d j1) (FP.l2d (own_nz jc)))), .second, .val (.double (FP.ddiv (FP.dsub (FP.i2d j0) (FP.dmul (FP.i2d jb) (FP.ddiv (FP.i2d j1) (FP.l2d (own_nz jc))))) (FP.l2d (own_nz ja)))), .second]) rfl ?_
      show Steps p.tables e below (T147.setTop (mkF m 218 #[.val (.int fl), .val (.int ja), .val (.int jb), .val (.int jc), .val (.int j0), .val (.int j1), .val (.int (0 : Int32)), .val (.int (1 : Int32)), .val (.int (1 : Int32)), .val (.int (0 : Int32)), .val (.double (FP.l2d (own_nz ja))), .second, .val (.double (FP.i2d jb)), .second, .val (.double (FP.l2d (own_nz jc))), .second, .val (.ref b15), .val (.ref b19), .val (.ref b34), .val (.ref b50), .val (.ref b64), .val (.ref b79), .val (.int (0 : Int32)), .val (.int (1 : Int32)), .val (.ref r147), .val (.double (FP.ddiv (FP.i2d j1) (FP.l2d (own_nz jc)))), .second, .val (.double (FP.ddiv (FP.dsub (FP.i2d j0) (FP.dmul (FP.i2d jb) (FP.ddiv (FP.i2d j1) (FP.l2d (own_nz jc))))) (FP.l2d (own_nz ja)))), .second] [])) _
      refine XS.aload X147.here hx rfl (hb hby at_218) rfl rfl ?_
      show Steps p.tables e below (T147.setTop (mkF m 220 #[.val (.int fl), .val (.int ja), .val (.int jb), .val (.int jc), .val (.int j0), .val (.int j1), .val (.int (0 : Int32)), .val (.int (1 : Int32)), .val (.int (1 : Int32)), .val (.int (0 : Int32)), .val (.double (FP.l2d (own_nz ja))), .second, .val (.double (FP.i2d jb)), .second, .val (.double (FP.l2d (own_nz jc))), .second, .val (.ref b15), .val (.ref b19), .val (.ref b34), .val (.ref b50), .val (.ref b64), .val (.ref b79), .val (.int (0 : Int32)), .val (.int (1 : Int32)), .val (.ref r147), .val (.double (FP.ddiv (FP.i2d j1) (FP.l2d (own_nz jc)))), .second, .val (.double (FP.ddiv (FP.dsub (FP.i2d j0) (FP.dmul (FP.i2d jb) (FP.ddiv (FP.i2d j1) (FP.l2d (own_nz jc))))) (FP.l2d (own_nz ja)))), .second] [(.ref r147)])) _
      exact kt
    obtain ⟨cl154, Ar154, qq154, S154, M154, H154, GG154⟩ := id VX147
    have K155 : ∀ t, Steps p.tables e below (T147.setTop (mkF m 229 #[.val (.int fl), .val (.int ja), .val (.int jb), .val (.int jc), .val (.int j0), .val (.int j1), .val (.int (0 : Int32)), .val (.int (1 : Int32)), .val (.int (1 : Int32)), .val (.int (0 : Int32)), .val (.double (FP.l2d (own_nz ja))), .second, .val (.double (FP.i2d jb)), .second, .val (.double (FP.l2d (own_nz jc))), .second, .val (.ref b15), .val (.ref b19), .val (.ref b34), .val (.ref b50), .val (.ref b64), .val (.ref b79), .val (.int (0 : Int32)), .val (.int (1 : Int32)), .val (.ref r147), .val (.double (FP.ddiv (FP.i2d j1) (FP.l2d (own_nz jc)))), .second, .val (.double (FP.ddiv (FP.dsub (FP.i2d j0) (FP.dmul (FP.i2d jb) (FP.ddiv (FP.i2d j1) (FP.l2d (own_nz jc))))) (FP.l2d (own_nz ja)))), .second] [(.int (0 : Int32)), (.ref r147)])) t → Steps p.tables e below G0 t := by
      intro t kt
      refine K153 t ?_
      refine X147.arraylength hx (by rw [(rfl : T147.heap = _)]; exact (Ar154).1) (State.isArrayOf_alike hZ.alike (Ar154).2.1) (g := (mkF m 220 #[.val (.int fl), .val (.int ja), .val (.int jb), .val (.int jc), .val (.int j0), .val (.int j1), .val (.int (0 : Int32)), .val (.int (1 : Int32)), .val (.int (1 : Int32)), .val (.int (0 : Int32)), .val (.double (FP.l2d (own_nz ja))), .second, .val (.double (FP.i2d jb)), .second, .val (.double (FP.l2d (own_nz jc))), .second, .val (.ref b15), .val (.ref b19), .val (.ref b34), .val (.ref b50), .val (.ref b64), .val (.ref b79), .val (.int (0 : Int32)), .val (.int (1 : Int32)), .val (.ref r147), .val (.double (FP.ddiv (FP.i2d j1) (FP.l2d (own_nz jc)))), .second, .val (.double (FP.ddiv (FP.dsub (FP.i2d j0) (FP.dmul (FP.i2d jb) (FP.ddiv (FP.i2d j1) (FP.l2d (own_nz jc))))) (FP.l2d (own_nz ja)))), .second] [(.ref r147)])) rfl rfl (hb hby at_220) _ ?_
      rw [len_of S154 M154]
      show Steps p.tables e below (T147.setTop (mkF m 221 #[.val (.int fl), .val (.int ja), .val (.int jb), .val (.int jc), .val (.int j0), .val (.int j1), .val (.int (0 : Int32)), .val (.int (1 : Int32)), .val (.int (1 : Int32)), .val (.int (0 : Int32)), .val (.double (FP.l2d (own_nz ja))), .second, .val (.double (FP.i2d jb)), .second, .val (.double (FP.l2d (own_nz jc))), .second, .val (.ref b15), .val (.ref b19), .val (.ref b34), .val (.ref b50), .val (.ref b64), .val (.ref b79), .val (.int (0 : Int32)), .val (.int (1 : Int32)), .val (.ref r147), .val (.double (FP.ddiv (FP.i2d j1) (FP.l2d (own_nz jc)))), .second, .val (.double (FP.ddiv (FP.dsub (FP.i2d j0) (FP.dmul (FP.i2d jb) (FP.ddiv (FP.i2d j1) (FP.l2d (own_nz jc))))) (FP.l2d (own_nz ja)))), .second] [(.int (2 : Int32))])) _
      refine XS.iconst X147.here hx rfl (hb hby at_221) ?_
      show Steps p.tables e below (T147.setTop (mkF m 222 #[.val (.int fl), .val (.int ja), .val (.int jb), .val (.int jc), .val (.int j0), .val (.int j1), .val (.int (0 : Int32)), .val (.int (1 : Int32)), .val (.int (1 : Int32)), .val (.int (0 : Int32)), .val (.double (FP.l2d (own_nz ja))), .second, .val (.double (FP.i2d jb)), .second, .val (.double (FP.l2d (own_nz jc))), .second, .val (.ref b15), .val (.ref b19), .val (.ref b34), .val (.ref b50), .val (.ref b64), .val (.ref b79), .val (.int (0 : Int32)), .val (.int (1 : Int32)), .val (.ref r147), .val (.double (FP.ddiv (FP.i2d j1) (FP.l2d (own_nz jc)))), .second, .val (.double (FP.ddiv (FP.dsub (FP.i2d j0) (FP.dmul (FP.i2d jb) (FP.ddiv (FP.i2d j1) (FP.l2d (own_nz jc))))) (FP.l2d (own_nz ja)))), .second] [(.int (2 : Int32)), (.int (2 : Int32))])) _
      refine XS.icmpNo X147.here hx rfl (hb hby at_222) rfl (teq (by decide)).2 ?_
      show Steps p.tables e below (T147.setTop (mkF m 225 #[.val (.int fl), .val (.int ja), .val (.int jb), .val (.int jc), .val (.int j0), .val (.int j1), .val (.int (0 : Int32)), .val (.int (1 : Int32)), .val (.int (1 : Int32)), .val (.int (0 : Int32)), .val (.double (FP.l2d (own_nz ja))), .second, .val (.double (FP.i2d jb)), .second, .val (.double (FP.l2d (own_nz jc))), .second, .val (.ref b15), .val (.ref b19), .val (.ref b34), .val (.ref b50), .val (.ref b64), .val (.ref b79), .val (.int (0 : Int32)), .val (.int (1 : Int32)), .val (.ref r147), .val (.double (FP.ddiv (FP.i2d j1) (FP.l2d (own_nz jc)))), .second, .val (.double (FP.ddiv (FP.dsub (FP.i2d j0) (FP.dmul (FP.i2d jb) (FP.ddiv (FP.i2d j1) (FP.l2d (own_nz jc))))) (FP.l2d (own_nz ja)))), .second] [])) _
      refine XS.aload X147.here hx rfl (hb hby at_225) rfl rfl ?_
      show Steps p.tables e below (T147.setTop (mkF m 227 #[.val (.int fl), .val (.int ja), .val (.int jb), .val (.int jc), .val (.int j0), .val (.int j1), .val (.int (0 : Int32)), .val (.int (1 : Int32)), .val (.int (1 : Int32)), .val (.int (0 : Int32)), .val (.double (FP.l2d (own_nz ja))), .second, .val (.double (FP.i2d jb)), .second, .val (.double (FP.l2d (own_nz jc))), .second, .val (.ref b15), .val (.ref b19), .val (.ref b34), .val (.ref b50), .val (.ref b64), .val (.ref b79), .val (.int (0 : Int32)), .val (.int (1 : Int32)), .val (.ref r147), .val (.double (FP.ddiv (FP.i2d j1) (FP.l2d (own_nz jc)))), .second, .val (.double (FP.ddiv (FP.dsub (FP.i2d j0) (FP.dmul (FP.i2d jb) (FP.ddiv (FP.i2d j1) (FP.l2d (own_nz jc))))) (FP.l2d (own_nz ja)))), .second] [(.ref r147)])) _
      refine XS.iload X147.here hx rfl (hb hby at_227) rfl ?_
      show Steps p.tables e below (T147.setTop (mkF m 229 #[.val (.int fl), .val (.int ja), .val (.int jb), .val (.int jc), .val (.int j0), .val (.int j1), .val (.int (0 : Int32)), .val (.int (1 : Int32)), .val (.int (1 : Int32)), .val (.int (0 : Int32)), .val (.double (FP.l2d (own_nz ja))), .second, .val (.double (FP.i2d jb)), .second, .val (.double (FP.l2d (own_nz jc))), .second, .val (.ref b15), .val (.ref b19), .val (.ref b34), .val (.ref b50), .val (.ref b64), .val (.ref b79), .val (.int (0 : Int32)), .val (.int (1 : Int32)), .val (.ref r147), .val (.double (FP.ddiv (FP.i2d j1) (FP.l2d (own_nz jc)))), .second, .val (.double (FP.ddiv (FP.dsub (FP.i2d j0) (FP.dmul (FP.i2d jb) (FP.ddiv (FP.i2d j1) (FP.l2d (own_nz jc))))) (FP.l2d (own_nz ja)))), .second] [(.int (0 : Int32)), (.ref r147)])) _
      exact kt
    obtain ⟨cl156, Ar156, qq156, S156, M156, H156, GG156⟩ := id VX147
    have hin156 : ¬ ((0 : Int32) < 0 ∨ cl156.slots.size ≤ ((0 : Int32)).toNatClampNeg) := inb_of S156 ⟨by decide, by decide⟩
    have hat156 : cl156.slots[((0 : Int32)).toNatClampNeg]? = some (.double (FP.ddiv (FP.i2d j1) (FP.l2d (own_nz jc)))) := Has.at H156 hin156 rfl
    have K157 : ∀ t, Steps p.tables e below (T147.setTop (mkF m 233 #[.val (.int fl), .val (.int ja), .val (.int jb), .val (.int jc), .val (.int j0), .val (.int j1), .val (.int (0 : Int32)), .val (.int (1 : Int32)), .val (.int (1 : Int32)), .val (.int (0 : Int32)), .val (.double (FP.l2d (own_nz ja))), .second, .val (.double (FP.i2d jb)), .second, .val (.double (FP.l2d (own_nz jc))), .second, .val (.ref b15), .val (.ref b19), .val (.ref b34), .val (.ref b50), .val (.ref b64), .val (.ref b79), .val (.int (0 : Int32)), .val (.int (1 : Int32)), .val (.ref r147), .val (.double (FP.ddiv (FP.i2d j1) (FP.l2d (own_nz jc)))), .second, .val (.double (FP.ddiv (FP.dsub (FP.i2d j0) (FP.dmul (FP.i2d jb) (FP.ddiv (FP.i2d j1) (FP.l2d (own_nz jc))))) (FP.l2d (own_nz ja)))), .second] [(.int (cmpValue (FP.dcmp (FP.ddiv (FP.i2d j1) (FP.l2d (own_nz jc))) (FP.ddiv (FP.i2d j1) (FP.l2d (own_nz jc)))) .l))])) t → Steps p.tables e below G0 t := by
      intro t kt
      refine K155 t ?_
      refine X147.daload hx (j := (0 : Int32)) (v := (.double (FP.ddiv (FP.i2d j1) (FP.l2d (own_nz jc))))) (by rw [(rfl : T147.heap = _)]; exact (Ar156).1) (State.isArrayOf_alike hZ.alike (Ar156).2.1) (Ar156).2.2 hin156 hat156 (g := (mkF m 229 #[.val (.int fl), .val (.int ja), .val (.int jb), .val (.int jc), .val (.int j0), .val (.int j1), .val (.int (0 : Int32)), .val (.int (1 : Int32)), .val (.int (1 : Int32)), .val (.int (0 : Int32)), .val (.double (FP.l2d (own_nz ja))), .second, .val (.double (FP.i2d jb)), .second, .val (.double (FP.l2d (own_nz jc))), .second, .val (.ref b15), .val (.ref b19), .val (.ref b34), .val (.ref b50), .val (.ref b64), .val (.ref b79), .val (.int (0 : Int32)), .val (.int (1 : Int32)), .val (.ref r147), .val (.double (FP.ddiv (FP.i2d j1) (FP.l2d (own_nz jc)))), .second, .val (.double (FP.ddiv (FP.dsub (FP.i2d j0) (FP.dmul (FP.i2d jb) (FP.ddiv (FP.i2d j1) (FP.l2d (own_nz jc))))) (FP.l2d (own_nz ja)))), .second] [(.int (0 : Int32)), (.ref r147)])) rfl rfl (hb hby at_229) _ ?_
      show Steps p.tables e below (T147.setTop (mkF m 230 #[.val (.int fl), .val (.int ja), .val (.int jb), .val (.int jc), .val (.int j0), .val (.int j1), .val (.int (0 : Int32)), .val (.int (1 : Int32)), .val (.int (1 : Int32)), .val (.int (0 : Int32)), .val (.double (FP.l2d (own_nz ja))), .second, .val (.double (FP.i2d jb)), .second, .val (.double (FP.l2d (own_nz jc))), .second, .val (.ref b15), .val (.ref b19), .val (.ref b34), .val (.ref b50), .val (.ref b64), .val (.ref b79), .val (.int (0 : Int32)), .val (.int (1 : Int32)), .val (.ref r147), .val (.double (FP.ddiv (FP.i2d j1) (FP.l2d (own_nz jc)))), .second, .val (.double (FP.ddiv (FP.dsub (FP.i2d j0) (FP.dmul (FP.i2d jb) (FP.ddiv (FP.i2d j1) (FP.l2d (own_nz jc))))) (FP.l2d (own_nz ja)))), .second] [(.double (FP.ddiv (FP.i2d j1) (FP.l2d (own_nz jc))))])) _
      refine XS.dload X147.here hx rfl (hb hby at_230) rfl ?_
      show Steps p.tables e below (T147.setTop (mkF m 232 #[.val (.int fl), .val (.int ja), .val (.int jb), .val (.int jc), .val (.int j0), .val (.int j1), .val (.int (0 : Int32)), .val (.int (1 : Int32)), .val (.int (1 : Int32)), .val (.int (0 : Int32)), .val (.double (FP.l2d (own_nz ja))), .second, .val (.double (FP.i2d jb)), .second, .val (.double (FP.l2d (own_nz jc))), .second, .val (.ref b15), .val (.ref b19), .val (.ref b34), .val (.ref b50), .val (.ref b64), .val (.ref b79), .val (.int (0 : Int32)), .val (.int (1 : Int32)), .val (.ref r147), .val (.double (FP.ddiv (FP.i2d j1) (FP.l2d (own_nz jc)))), .second, .val (.double (FP.ddiv (FP.dsub (FP.i2d j0) (FP.dmul (FP.i2d jb) (FP.ddiv (FP.i2d j1) (FP.l2d (own_nz jc))))) (FP.l2d (own_nz ja)))), .second] [(.double (FP.ddiv (FP.i2d j1) (FP.l2d (own_nz jc)))), (.double (FP.ddiv (FP.i2d j1) (FP.l2d (own_nz jc))))])) _
      refine XS.dcmpS X147.here hx rfl (hb hby at_232) rfl rfl ?_
      show Steps p.tables e below (T147.setTop (mkF m 233 #[.val (.int fl), .val (.int ja), .val (.int jb), .val (.int jc), .val (.int j0), .val (.int j1), .val (.int (0 : Int32)), .val (.int (1 : Int32)), .val (.int (1 : Int32)), .val (.int (0 : Int32)), .val (.double (FP.l2d (own_nz ja))), .second, .val (.double (FP.i2d jb)), .second, .val (.double (FP.l2d (own_nz jc))), .second, .val (.ref b15), .val (.ref b19), .val (.ref b34), .val (.ref b50), .val (.ref b64), .val (.ref b79), .val (.int (0 : Int32)), .val (.int (1 : Int32)), .val (.ref r147), .val (.double (FP.ddiv (FP.i2d j1) (FP.l2d (own_nz jc)))), .second, .val (.double (FP.ddiv (FP.dsub (FP.i2d j0) (FP.dmul (FP.i2d jb) (FP.ddiv (FP.i2d j1) (FP.l2d (own_nz jc))))) (FP.l2d (own_nz ja)))), .second] [(.int (cmpValue (FP.dcmp (FP.ddiv (FP.i2d j1) (FP.l2d (own_nz jc))) (FP.ddiv (FP.i2d j1) (FP.l2d (own_nz jc)))) .l))])) _
      exact kt
    have K158 : ∀ t, Steps p.tables e below (T147.setTop (mkF m 240 #[.val (.int fl), .val (.int ja), .val (.int jb), .val (.int jc), .val (.int j0), .val (.int j1), .val (.int (0 : Int32)), .val (.int (1 : Int32)), .val (.int (1 : Int32)), .val (.int (0 : Int32)), .val (.double (FP.l2d (own_nz ja))), .second, .val (.double (FP.i2d jb)), .second, .val (.double (FP.l2d (own_nz jc))), .second, .val (.ref b15), .val (.ref b19), .val (.ref b34), .val (.ref b50), .val (.ref b64), .val (.ref b79), .val (.int (0 : Int32)), .val (.int (1 : Int32)), .val (.ref r147), .val (.double (FP.ddiv (FP.i2d j1) (FP.l2d (own_nz jc)))), .second, .val (.double (FP.ddiv (FP.dsub (FP.i2d j0) (FP.dmul (FP.i2d jb) (FP.ddiv (FP.i2d j1) (FP.l2d (own_nz jc))))) (FP.l2d (own_nz ja)))), .second] [(.int (1 : Int32)), (.ref r147)])) t → Steps p.tables e below G0 t := by
      intro t kt
      refine K157 t ?_
      refine XS.ifNo X147.here hx rfl (hb hby at_233) rfl ((if0 _ _).trans (teq (dcmpV_self (own_n1 j1 _ hD) .l)).2) ?_
      show Steps p.tables e below (T147.setTop (mkF m 236 #[.val (.int fl), .val (.int ja), .val (.int jb), .val (.int jc), .val (.int j0), .val (.int j1), .val (.int (0 : Int32)), .val (.int (1 : Int32)), .val (.int (1 : Int32)), .val (.int (0 : Int32)), .val (.double (FP.l2d (own_nz ja))), .second, .val (.double (FP.i2d jb)), .second, .val (.double (FP.l2d (own_nz jc))), .second, .val (.ref b15), .val (.ref b19), .val (.ref b34), .val (.ref b50), .val (.ref b64), .val (.ref b79), .val (.int (0 : Int32)), .val (.int (1 : Int32)), .val (.ref r147), .val (.double (FP.ddiv (FP.i2d j1) (FP.l2d (own_nz jc)))), .second, .val (.double (FP.ddiv (FP.dsub (FP.i2d j0) (FP.dmul (FP.i2d jb) (FP.ddiv (FP.i2d j1) (FP.l2d (own_nz jc))))) (FP.l2d (own_nz ja)))), .second] [])) _
      refine XS.aload X147.here hx rfl (hb hby at_236) rfl rfl ?_
      show Steps p.tables e below (T147.setTop (mkF m 238 #[.val (.int fl), .val (.int ja), .val (.int jb), .val (.int jc), .val (.int j0), .val (.int j1), .val (.int (0 : Int32)), .val (.int (1 : Int32)), .val (.int (1 : Int32)), .val (.int (0 : Int32)), .val (.double (FP.l2d (own_nz ja))), .second, .val (.double (FP.i2d jb)), .second, .val (.double (FP.l2d (own_nz jc))), .second, .val (.ref b15), .val (.ref b19), .val (.ref b34), .val (.ref b50), .val (.ref b64), .val (.ref b79), .val (.int (0 : Int32)), .val (.int (1 : Int32)), .val (.ref r147), .val (.double (FP.ddiv (FP.i2d j1) (FP.l2d (own_nz jc)))), .second, .val (.double (FP.ddiv (FP.dsub (FP.i2d j0) (FP.dmul (FP.i2d jb) (FP.ddiv (FP.i2d j1) (FP.l2d (own_nz jc))))) (FP.l2d (own_nz ja)))), .second] [(.ref r147)])) _
      refine XS.iload X147.here hx rfl (hb hby at_238) rfl ?_
      show Steps p.tables e below (T147.setTop (mkF m 240 #[.val (.int fl), .val (.int ja), .val (.int jb), .val (.int jc), .val (.int j0), .val (.int j1), .val (.int (0 : Int32)), .val (.int (1 : Int32)), .val (.int (1 : Int32)), .val (.int (0 : Int32)), .val (.double (FP.l2d (own_nz ja))), .second, .val (.double (FP.i2d jb)), .second, .val (.double (FP.l2d (own_nz jc))), .second, .val (.ref b15), .val (.ref b19), .val (.ref b34), .val (.ref b50), .val (.ref b64), .val (.ref b79), .val (.int (0 : Int32)), .val (.int (1 : Int32)), .val (.ref r147), .val (.double (FP.ddiv (FP.i2d j1) (FP.l2d (own_nz jc)))), .second, .val (.double (FP.ddiv (FP.dsub (FP.i2d j0) (FP.dmul (FP.i2d jb) (FP.ddiv (FP.i2d j1) (FP.l2d (own_nz jc))))) (FP.l2d (own_nz ja)))), .second] [(.int (1 : Int32)), (.ref r147)])) _
      exact kt
    obtain ⟨cl159, Ar159, qq159, S159, M159, H159, GG159⟩ := id VX147
    have hin159 : ¬ ((1 : Int32) < 0 ∨ cl159.slots.size ≤ ((1 : Int32)).toNatClampNeg) := inb_of S159 ⟨by decide, by decide⟩
    have hat159 : cl159.slots[((1 : Int32)).toNatClampNeg]? = some (.double (FP.ddiv (FP.dsub (FP.i2d j0) (FP.dmul (FP.i2d jb) (FP.ddiv (FP.i2d j1) (FP.l2d (own_nz jc))))) (FP.l2d (own_nz ja)))) := Has.at H159 hin159 rfl
    have K160 : ∀ t, Steps p.tables e below (T147.setTop (mkF m 244 #[.val (.int fl), .val (.int ja), .val (.int jb), .val (.int jc), .val (.int j0), .val (.int j1), .val (.int (0 : Int32)), .val (.int (1 : Int32)), .val (.int (1 : Int32)), .val (.int (0 : Int32)), .val (.double (FP.l2d (own_nz ja))), .second, .val (.double (FP.i2d jb)), .second, .val (.double (FP.l2d (own_nz jc))), .second, .val (.ref b15), .val (.ref b19), .val (.ref b34), .val (.ref b50), .val (.ref b64), .val (.ref b79), .val (.int (0 : Int32)), .val (.int (1 : Int32)), .val (.ref r147), .val (.double (FP.ddiv (FP.i2d j1) (FP.l2d (own_nz jc)))), .second, .val (.double (FP.ddiv (FP.dsub (FP.i2d j0) (FP.dmul (FP.i2d jb) (FP.ddiv (FP.i2d j1) (FP.l2d (own_nz jc))))) (FP.l2d (own_nz ja)))), .second] [(.int (cmpValue (FP.dcmp (FP.ddiv (FP.dsub (FP.i2d j0) (FP.dmul (FP.i2d jb) (FP.ddiv (FP.i2d j1) (FP.l2d (own_nz jc))))) (FP.l2d (own_nz ja))) (FP.ddiv (FP.dsub (FP.i2d j0) (FP.dmul (FP.i2d jb) (FP.ddiv (FP.i2d j1) (FP.l2d (own_nz jc))))) (FP.l2d (own_nz ja)))) .l))])) t → Steps p.tables e below G0 t := by
      intro t kt
      refine K158 t ?_
      refine X147.daload hx (j := (1 : Int32)) (v := (.double (FP.ddiv (FP.dsub (FP.i2d j0) (FP.dmul (FP.i2d jb) (FP.ddiv (FP.i2d j1) (FP.l2d (own_nz jc))))) (FP.l2d (own_nz ja))))) (by rw [(rfl : T147.heap = _)]; exact (Ar159).1) (State.isArrayOf_alike hZ.alike (Ar159).2.1) (Ar159).2.2 hin159 hat159 (g := (mkF m 240 #[.val (.int fl), .val (.int ja), .val (.int jb), .val (.int jc), .val (.int j0), .val (.int j1), .val (.int (0 : Int32)), .val (.int (1 : Int32)), .val (.int (1 : Int32)), .val (.int (0 : Int32)), .val (.double (FP.l2d (own_nz ja))), .second, .val (.double (FP.i2d jb)), .second, .val (.double (FP.l2d (own_nz jc))), .second, .val (.ref b15), .val (.ref b19), .val (.ref b34), .val (.ref b50), .val (.ref b64), .val (.ref b79), .val (.int (0 : Int32)), .val (.int (1 : Int32)), .val (.ref r147), .val (.double (FP.ddiv (FP.i2d j1) (FP.l2d (own_nz jc)))), .second, .val (.double (FP.ddiv (FP.dsub (FP.i2d j0) (FP.dmul (FP.i2d jb) (FP.ddiv (FP.i2d j1) (FP.l2d (own_nz jc))))) (FP.l2d (own_nz ja)))), .second] [(.int (1 : Int32)), (.ref r147)])) rfl rfl (hb hby at_240) _ ?_
      show Steps p.tables e below (T147.setTop (mkF m 241 #[.val (.int fl), .val (.int ja), .val (.int jb), .val (.int jc), .val (.int j0), .val (.int j1), .val (.int (0 : Int32)), .val (.int (1 : Int32)), .val (.int (1 : Int32)), .val (.int (0 : Int32)), .val (.double (FP.l2d (own_nz ja))), .second, .val (.double (FP.i2d jb)), .second, .val (.double (FP.l2d (own_nz jc))), .second, .val (.ref b15), .val (.ref b19), .val (.ref b34), .val (.ref b50), .val (.ref b64), .val (.ref b79), .val (.int (0 : Int32)), .val (.int (1 : Int32)), .val (.ref r147), .val (.double (FP.ddiv (FP.i2d j1) (FP.l2d (own_nz jc)))), .second, .val (.double (FP.ddiv (FP.dsub (FP.i2d j0) (FP.dmul (FP.i2d jb) (FP.ddiv (FP.i2d j1) (FP.l2d (own_nz jc))))) (FP.l2d (own_nz ja)))), .second] [(.double (FP.ddiv (FP.dsub (FP.i2d j0) (FP.dmul (FP.i2d jb) (FP.ddiv (FP.i2d j1) (FP.l2d (own_nz jc))))) (FP.l2d (own_nz ja))))])) _
      refine XS.dload X147.here hx rfl (hb hby at_241) rfl ?_
      show Steps p.tables e below (T147.setTop (mkF m 243 #[.val (.int fl), .val (.int ja), .val (.int jb), .val (.int jc), .val (.int j0), .val (.int j1), .val (.int (0 : Int32)), .val (.int (1 : Int32)), .val (.int (1 : Int32)), .val (.int (0 : Int32)), .val (.double (FP.l2d (own_nz ja))), .second, .val (.double (FP.i2d jb)), .second, .val (.double (FP.l2d (own_nz jc))), .second, .val (.ref b15), .val (.ref b19), .val (.ref b34), .val (.ref b50), .val (.ref b64), .val (.ref b79), .val (.int (0 : Int32)), .val (.int (1 : Int32)), .val (.ref r147), .val (.double (FP.ddiv (FP.i2d j1) (FP.l2d (own_nz jc)))), .second, .val (.double (FP.ddiv (FP.dsub (FP.i2d j0) (FP.dmul (FP.i2d jb) (FP.ddiv (FP.i2d j1) (FP.l2d (own_nz jc))))) (FP.l2d (own_nz ja)))), .second] [(.double (FP.ddiv (FP.dsub (FP.i2d j0) (FP.dmul (FP.i2d jb) (FP.ddiv (FP.i2d j1) (FP.l2d (own_nz jc))))) (FP.l2d (own_nz ja)))), (.double (FP.ddiv (FP.dsub (FP.i2d j0) (FP.dmul (FP.i2d jb) (FP.ddiv (FP.i2d j1) (FP.l2d (own_nz jc))))) (FP.l2d (own_nz ja))))])) _
      refine XS.dcmpS X147.here hx rfl (hb hby at_243) rfl rfl ?_
      show Steps p.tables e below (T147.setTop (mkF m 244 #[.val (.int fl), .val (.int ja), .val (.int jb), .val (.int jc), .val (.int j0), .val (.int j1), .val (.int (0 : Int32)), .val (.int (1 : Int32)), .val (.int (1 : Int32)), .val (.int (0 : Int32)), .val (.double (FP.l2d (own_nz ja))), .second, .val (.double (FP.i2d jb)), .second, .val (.double (FP.l2d (own_nz jc))), .second, .val (.ref b15), .val (.ref b19), .val (.ref b34), .val (.ref b50), .val (.ref b64), .val (.ref b79), .val (.int (0 : Int32)), .val (.int (1 : Int32)), .val (.ref r147), .val (.double (FP.ddiv (FP.i2d j1) (FP.l2d (own_nz jc)))), .second, .val (.double (FP.ddiv (FP.dsub (FP.i2d j0) (FP.dmul (FP.i2d jb) (FP.ddiv (FP.i2d j1) (FP.l2d (own_nz jc))))) (FP.l2d (own_nz ja)))), .second] [(.int (cmpValue (FP.dcmp (FP.ddiv (FP.dsub (FP.i2d j0) (FP.dmul (FP.i2d jb) (FP.ddiv (FP.i2d j1) (FP.l2d (own_nz jc))))) (FP.l2d (own_nz ja))) (FP.ddiv (FP.dsub (FP.i2d j0) (FP.dmul (FP.i2d jb) (FP.ddiv (FP.i2d j1) (FP.l2d (own_nz jc))))) (FP.l2d (own_nz ja)))) .l))])) _
      exact kt
    have K161 : ∀ t, Steps p.tables e below (T147.setTop (mkF m 252 #[.val (.int fl), .val (.int ja), .val (.int jb), .val (.int jc), .val (.int j0), .val (.int j1), .val (.int (0 : Int32)), .val (.int (1 : Int32)), .val (.int (1 : Int32)), .val (.int (0 : Int32)), .val (.double (FP.l2d (own_nz ja))), .second, .val (.double (FP.i2d jb)), .second, .val (.double (FP.l2d (own_nz jc))), .second, .val (.ref b15), .val (.ref b19), .val (.ref b34), .val (.ref b50), .val (.ref b64), .val (.ref b79), .val (.int (0 : Int32)), .val (.int (1 : Int32)), .val (.ref r147), .val (.double (FP.ddiv (FP.i2d j1) (FP.l2d (own_nz jc)))), .second, .val (.double (FP.ddiv (FP.dsub (FP.i2d j0) (FP.dmul (FP.i2d jb) (FP.ddiv (FP.i2d j1) (FP.l2d (own_nz jc))))) (FP.l2d (own_nz ja)))), .second] [(.int (1 : Int32))])) t → Steps p.tables e below G0 t := by
      intro t kt
      refine K160 t ?_
      refine XS.ifNo X147.here hx rfl (hb hby at_244) rfl ((if0 _ _).trans (teq (dcmpV_self (own_n4 j0 jb j1 _ _ hD hA) .l)).2) ?_
      show Steps p.tables e below (T147.setTop (mkF m 247 #[.val (.int fl), .val (.int ja), .val (.int jb), .val (.int jc), .val (.int j0), .val (.int j1), .val (.int (0 : Int32)), .val (.int (1 : Int32)), .val (.int (1 : Int32)), .val (.int (0 : Int32)), .val (.double (FP.l2d (own_nz ja))), .second, .val (.double (FP.i2d jb)), .second, .val (.double (FP.l2d (own_nz jc))), .second, .val (.ref b15), .val (.ref b19), .val (.ref b34), .val (.ref b50), .val (.ref b64), .val (.ref b79), .val (.int (0 : Int32)), .val (.int (1 : Int32)), .val (.ref r147), .val (.double (FP.ddiv (FP.i2d j1) (FP.l2d (own_nz jc)))), .second, .val (.double (FP.ddiv (FP.dsub (FP.i2d j0) (FP.dmul (FP.i2d jb) (FP.ddiv (FP.i2d j1) (FP.l2d (own_nz jc))))) (FP.l2d (own_nz ja)))), .second] [])) _
      refine XS.iconst X147.here hx rfl (hb hby at_247) ?_
      show Steps p.tables e below (T147.setTop (mkF m 248 #[.val (.int fl), .val (.int ja), .val (.int jb), .val (.int jc), .val (.int j0), .val (.int j1), .val (.int (0 : Int32)), .val (.int (1 : Int32)), .val (.int (1 : Int32)), .val (.int (0 : Int32)), .val (.double (FP.l2d (own_nz ja))), .second, .val (.double (FP.i2d jb)), .second, .val (.double (FP.l2d (own_nz jc))), .second, .val (.ref b15), .val (.ref b19), .val (.ref b34), .val (.ref b50), .val (.ref b64), .val (.ref b79), .val (.int (0 : Int32)), .val (.int (1 : Int32)), .val (.ref r147), .val (.double (FP.ddiv (FP.i2d j1) (FP.l2d (own_nz jc)))), .second, .val (.double (FP.ddiv (FP.dsub (FP.i2d j0) (FP.dmul (FP.i2d jb) (FP.ddiv (FP.i2d j1) (FP.l2d (own_nz jc))))) (FP.l2d (own_nz ja)))), .second] [(.int (1 : Int32))])) _
      refine XS.goto X147.here hx rfl (pc0 := 248) (pc' := 252) rfl (hb hby at_248) (by decide) (by decide) ?_
      show Steps p.tables e below (T147.setTop (mkF m 252 #[.val (.int fl), .val (.int ja), .val (.int jb), .val (.int jc), .val (.int j0), .val (.int j1), .val (.int (0 : Int32)), .val (.int (1 : Int32)), .val (.int (1 : Int32)), .val (.int (0 : Int32)), .val (.double (FP.l2d (own_nz ja))), .second, .val (.double (FP.i2d jb)), .second, .val (.double (FP.l2d (own_nz jc))), .second, .val (.ref b15), .val (.ref b19), .val (.ref b34), .val (.ref b50), .val (.ref b64), .val (.ref b79), .val (.int (0 : Int32)), .val (.int (1 : Int32)), .val (.ref r147), .val (.double (FP.ddiv (FP.i2d j1) (FP.l2d (own_nz jc)))), .second, .val (.double (FP.ddiv (FP.dsub (FP.i2d j0) (FP.dmul (FP.i2d jb) (FP.ddiv (FP.i2d j1) (FP.l2d (own_nz jc))))) (FP.l2d (own_nz ja)))), .second] [(.int (1 : Int32))])) _
      exact kt
    obtain ⟨fs, hr, hrun, hended, hW, hsame⟩ := X147.leave (v := some (.int (1 : Int32))) (fun h => by rw [Bd.returns] at h; cases h)
    refine ⟨_, _, ?_, hrun, hended, _, _, rfl, ?_, ⟨_, rfl⟩, hW, hsame.mono (by decide) (by decide)⟩
    · rw [← hG0]
      refine K161 _ ?_
      exact retN X147 hx (t := .boolean) Bd.returns (by simp) (hb hby at_252) hr
    · show Q0 Z fl ja jb jc j0 j1 h0 n0 _ T147.heap _
      exact ⟨rfl, N147⟩
  ·
    have FAx162 : own_Fac Z T113.heap b15 rb17 ml17 ln17 pe17 pu17 pc17 kr17 km17 kl17 ke17 ku17 kc17 (2 : Int32) (2 : Int32) (0 : Int64) [.null, .null] [.null, .null] [(.int (0 : Int32)), (.int (0 : Int32))] [(.int (1 : Int32)), (.int (0 : Int32))] [(.ref b19), (.ref b50)] [(.ref b34), (.ref b64)] := ⟨fc113_0, fc113_1, fc113_2, fc113_3, fc113_4, fc113_5, fc113_6, fc113_7, fc113_8, fc113_9, fc113_10, fc113_11, fc113_12, fc113_13, fc113_14, fc113_15⟩
    obtain ⟨cq163, kq163, q163a, q163b, q163c⟩ := isOf hZ e116 fc113_0
    obtain ⟨_, _, ⟨T164, L164, k164, n164⟩, -, X164, ⟨Lc164, hQ164, l164, y164, z164⟩, st164⟩ := X116.virtualBack hx (y := (⟨"com/example/sondage/sondage/inference/Factorization", "solve", "([D)[D"⟩ : MethodName)) (z := (⟨"com/example/sondage/sondage/inference/Factorization", "solve", "([D)[D"⟩ : MethodName)) hown (mvT hZ (hw _ (List.mem_of_getElem? (i := 52) rfl))) (mvT hZ (hw _ (List.mem_of_getElem? (i := 53) rfl))) (notFace_of_selects (args := #[]) (mvT hZ (hw _ (List.mem_of_getElem? (i := 55) rfl)))) (mvT hZ (hw _ (List.mem_of_getElem? (i := 55) rfl))) (mvT hZ (hw _ (List.mem_of_getElem? (i := 54) rfl))) (by decide) (backOf (W := 0) (rm6_10 l Z aa hw [] (b15) (b79) rb17 ml17 ln17 pe17 pu17 pc17 b19 b50 b34 b64 kr17 km17 kl17 ke17 ku17 kc17 _ _ _ _ _ (0 : Int64) [.null, .null] [.null, .null] (FP.i2d j0) (FP.i2d j1) (FP.l2d (own_nz ja)) (FP.i2d jb) (FP.l2d (own_nz jc)) T113.heap n0 Z113 FAx162 f126 f118 f122 f120 f124 (own_n1 j0 _ hD) (own_n2 jb j0 _ hD) (own_n3 j1 jb j0 _ hD) (own_n4 j1 jb j0 _ _ hD hA)) hZ (hw _ (List.mem_of_getElem? (i := 56) rfl)) (hw _ (List.mem_of_getElem? (i := 2) rfl)) (by decide) (by decide)) q163a q163c (g := (mkF m 187 #[.val (.int fl), .val (.int ja), .val (.int jb), .val (.int jc), .val (.int j0), .val (.int j1), .val (.int (1 : Int32)), .val (.int (0 : Int32)), .val (.int (0 : Int32)), .val (.int (1 : Int32)), .val (.double (FP.l2d (own_nz ja))), .second, .val (.double (FP.i2d jb)), .second, .val (.double (FP.l2d (own_nz jc))), .second, .val (.ref b15), .val (.ref b19), .val (.ref b34), .val (.ref b50), .val (.ref b64), .val (.ref b79), .val (.int (0 : Int32)), .val (.int (1 : Int32)), .unset, .unset, .unset, .unset, .unset] [(.ref b79), (.ref b15)])) rfl (by rw [hml]; rfl) (Steps.refl _) (argsL := [(.ref b79)]) (rest := []) (lenOf pd_P_DQ_D rfl) rfl (by show 2 * 0 + _ ≤ _; exact Nat.le_of_eq rfl) (hb hby at_187) (fun _ _ => ⟨rfl, e116, (by decide : 13 + 2 ≤ _), (by decide : 32 + 4 ≤ _)⟩)
    dsimp only [Pt.U, Pt.locs, Pt.cells, Pt.slots] at X164 l164 y164 z164 st164 hQ164
    subst l164 y164 z164
    obtain ⟨r164, kx164, rfl, N164q, KV164, VX164⟩ := hQ164
    have N164 := Fr.app N116 N164q
    have K164 : ∀ t, Steps p.tables e below (T164.setTop (mkF m 190 #[.val (.int fl), .val (.int ja), .val (.int jb), .val (.int jc), .val (.int j0), .val (.int j1), .val (.int (1 : Int32)), .val (.int (0 : Int32)), .val (.int (0 : Int32)), .val (.int (1 : Int32)), .val (.double (FP.l2d (own_nz ja))), .second, .val (.double (FP.i2d jb)), .second, .val (.double (FP.l2d (own_nz jc))), .second, .val (.ref b15), .val (.ref b19), .val (.ref b34), .val (.ref b50), .val (.ref b64), .val (.ref b79), .val (.int (0 : Int32)), .val (.int (1 : Int32)), .unset, .unset, .unset, .unset, .unset] [(.ref r164)])) t → Steps p.tables e below G0 t := fun t kt => K117 t (st164.trans kt)
    have Z164 : n0 ≤ T164.heap.size := Nat.le_trans Z113 KV164.1
    have K165 : ∀ t, Steps p.tables e below (T164.setTop (mkF m 196 #[.val (.int fl), .val (.int ja), .val (.int jb), .val (.int jc), .val (.int j0), .val (.int j1), .val (.int (1 : Int32)), .val (.int (0 : Int32)), .val (.int (0 : Int32)), .val (.int (1 : Int32)), .val (.double (FP.l2d (own_nz ja))), .second, .val (.double (FP.i2d jb)), .second, .val (.double (FP.l2d (own_nz jc))), .second, .val (.ref b15), .val (.ref b19), .val (.ref b34), .val (.ref b50), .val (.ref b64), .val (.ref b79), .val (.int (0 : Int32)), .val (.int (1 : Int32)), .val (.ref r164), .unset, .unset, .unset, .unset] [(.int (0 : Int32)), (.ref b79)])) t → Steps p.tables e below G0 t := by
      intro t kt
      refine K164 t ?_
      refine XS.astore X164.here hx rfl (hb hby at_190) rfl rfl (l' := #[.val (.int fl), .val (.int ja), .val (.int jb), .val (.int jc), .val (.int j0), .val (.int j1), .val (.int (1 : Int32)), .val (.int (0 : Int32)), .val (.int (0 : Int32)), .val (.int (1 : Int32)), .val (.double (FP.l2d (own_nz ja))), .second, .val (.double (FP.i2d jb)), .second, .val (.double (FP.l2d (own_nz jc))), .second, .val (.ref b15), .val (.ref b19), .val (.ref b34), .val (.ref b50), .val (.ref b64), .val (.ref b79), .val (.int (0 : Int32)), .val (.int (1 : Int32)), .val (.ref r164), .unset, .unset, .unset, .unset]) rfl ?_
      show Steps p.tables e below (T164.setTop (mkF m 192 #[.val (.int fl), .val (.int ja), .val (.int jb), .val (.int jc), .val (.int j0), .val (.int j1), .val (.int (1 : Int32)), .val (.int (0 : Int32)), .val (.int (0 : Int32)), .val (.int (1 : Int32)), .val (.double (FP.l2d (own_nz ja))), .second, .val (.double (FP.i2d jb)), .second, .val (.double (FP.l2d (own_nz jc))), .second, .val (.ref b15), .val (.ref b19), .val (.ref b34), .val (.ref b50), .val (.ref b64), .val (.ref b79), .val (.int (0 : Int32)), .val (.int (1 : Int32)), .val (.ref r164), .unset, .unset, .unset, .unset] [])) _
      refine XS.aload X164.here hx rfl (hb hby at_192) rfl rfl ?_
      show Steps p.tables e below (T164.setTop (mkF m 194 #[.val (.int fl), .val (.int ja), .val (.int jb), .val (.int jc), .val (.int j0), .val (.int j1), .val (.int (1 : Int32)), .val (.int (0 : Int32)), .val (.int (0 : Int32)), .val (.int (1 : Int32)), .val (.double (FP.l2d (own_nz ja))), .second, .val (.double (FP.i2d jb)), .second, .val (.double (FP.l2d (own_nz jc))), .second, .val (.ref b15), .val (.ref b19), .val (.ref b34), .val (.ref b50), .val (.ref b64), .val (.ref b79), .val (.int (0 : Int32)), .val (.int (1 : Int32)), .val (.ref r164), .unset, .unset, .unset, .unset] [(.ref b79)])) _
      refine XS.iload X164.here hx rfl (hb hby at_194) rfl ?_
      show Steps p.tables e below (T164.setTop (mkF m 196 #[.val (.int fl), .val (.int ja), .val (.int jb), .val (.int jc), .val (.int j0), .val (.int j1), .val (.int (1 : Int32)), .val (.int (0 : Int32)), .val (.int (0 : Int32)), .val (.int (1 : Int32)), .val (.double (FP.l2d (own_nz ja))), .second, .val (.double (FP.i2d jb)), .second, .val (.double (FP.l2d (own_nz jc))), .second, .val (.ref b15), .val (.ref b19), .val (.ref b34), .val (.ref b50), .val (.ref b64), .val (.ref b79), .val (.int (0 : Int32)), .val (.int (1 : Int32)), .val (.ref r164), .unset, .unset, .unset, .unset] [(.int (0 : Int32)), (.ref b79)])) _
      exact kt
    have f166 := (f126.keep KV164 (fun q => nomatch q))
    obtain ⟨cl167, Ar167, qq167, S167, M167, H167, GG167⟩ := id f166
    have hin167 : ¬ ((0 : Int32) < 0 ∨ cl167.slots.size ≤ ((0 : Int32)).toNatClampNeg) := inb_of S167 ⟨by decide, by decide⟩
    have hat167 : cl167.slots[((0 : Int32)).toNatClampNeg]? = some (.double (FP.i2d j0)) := Has.at H167 hin167 rfl
    have K168 : ∀ t, Steps p.tables e below (T164.setTop (mkF m 206 #[.val (.int fl), .val (.int ja), .val (.int jb), .val (.int jc), .val (.int j0), .val (.int j1), .val (.int (1 : Int32)), .val (.int (0 : Int32)), .val (.int (0 : Int32)), .val (.int (1 : Int32)), .val (.double (FP.l2d (own_nz ja))), .second, .val (.double (FP.i2d jb)), .second, .val (.double (FP.l2d (own_nz jc))), .second, .val (.ref b15), .val (.ref b19), .val (.ref b34), .val (.ref b50), .val (.ref b64), .val (.ref b79), .val (.int (0 : Int32)), .val (.int (1 : Int32)), .val (.ref r164), .val (.double (FP.ddiv (FP.i2d j0) (FP.l2d (own_nz jc)))), .second, .unset, .unset] [(.int (1 : Int32)), (.ref b79)])) t → Steps p.tables e below G0 t := by
      intro t kt
      refine K165 t ?_
      refine X164.daload hx (j := (0 : Int32)) (v := (.double (FP.i2d j0))) (by rw [(rfl : T164.heap = _)]; exact (Ar167).1) (State.isArrayOf_alike hZ.alike (Ar167).2.1) (Ar167).2.2 hin167 hat167 (g := (mkF m 196 #[.val (.int fl), .val (.int ja), .val (.int jb), .val (.int jc), .val (.int j0), .val (.int j1), .val (.int (1 : Int32)), .val (.int (0 : Int32)), .val (.int (0 : Int32)), .val (.int (1 : Int32)), .val (.double (FP.l2d (own_nz ja))), .second, .val (.double (FP.i2d jb)), .second, .val (.double (FP.l2d (own_nz jc))), .second, .val (.ref b15), .val (.ref b19), .val (.ref b34), .val (.ref b50), .val (.ref b64), .val (.ref b79), .val (.int (0 : Int32)), .val (.int (1 : Int32)), .val (.ref r164), .unset, .unset, .unset, .unset] [(.int (0 : Int32)), (.ref b79)])) rfl rfl (hb hby at_196) _ ?_
      show Steps p.tables e below (T164.setTop (mkF m 197 #[.val (.int fl), .val (.int ja), .val (.int jb), .val (.int jc), .val (.int j0), .val (.int j1), .val (.int (1 : Int32)), .val (.int (0 : Int32)), .val (.int (0 : Int32)), .val (.int (1 : Int32)), .val (.double (FP.l2d (own_nz ja))), .second, .val (.double (FP.i2d jb)), .second, .val (.double (FP.l2d (own_nz jc))), .second, .val (.ref b15), .val (.ref b19), .val (.ref b34), .val (.ref b50), .val (.ref b64), .val (.ref b79), .val (.int (0 : Int32)), .val (.int (1 : Int32)), .val (.ref r164), .unset, .unset, .unset, .unset] [(.double (FP.i2d j0))])) _
      refine XS.dload X164.here hx rfl (hb hby at_197) rfl ?_
      show Steps p.tables e below (T164.setTop (mkF m 199 #[.val (.int fl), .val (.int ja), .val (.int jb), .val (.int jc), .val (.int j0), .val (.int j1), .val (.int (1 : Int32)), .val (.int (0 : Int32)), .val (.int (0 : Int32)), .val (.int (1 : Int32)), .val (.double (FP.l2d (own_nz ja))), .second, .val (.double (FP.i2d jb)), .second, .val (.double (FP.l2d (own_nz jc))), .second, .val (.ref b15), .val (.ref b19), .val (.ref b34), .val (.ref b50), .val (.ref b64), .val (.ref b79), .val (.int (0 : Int32)), .val (.int (1 : Int32)), .val (.ref r164), .unset, .unset, .unset, .unset] [(.double (FP.l2d (own_nz jc))), (.double (FP.i2d j0))])) _
      refine XS.ddivS X164.here hx rfl (hb hby at_199) rfl (own_n1 j0 _ hD) rfl ?_
      show Steps p.tables e below (T164.setTop (mkF m 200 #[.val (.int fl), .val (.int ja), .val (.int jb), .val (.int jc), .val (.int j0), .val (.int j1), .val (.int (1 : Int32)), .val (.int (0 : Int32)), .val (.int (0 : Int32)), .val (.int (1 : Int32)), .val (.double (FP.l2d (own_nz ja))), .second, .val (.double (FP.i2d jb)), .second, .val (.double (FP.l2d (own_nz jc))), .second, .val (.ref b15), .val (.ref b19), .val (.ref b34), .val (.ref b50), .val (.ref b64), .val (.ref b79), .val (.int (0 : Int32)), .val (.int (1 : Int32)), .val (.ref r164), .unset, .unset, .unset, .unset] [(.double (FP.ddiv (FP.i2d j0) (FP.l2d (own_nz jc))))])) _
      refine XS.dstore X164.here hx rfl (hb hby at_200) rfl (l' := #[.val (.int fl), .val (.int ja), .val (.int jb), .val (.int jc), .val (.int j0), .val (.int j1), .val (.int (1 : Int32)), .val (.int (0 : Int32)), .val (.int (0 : Int32)), .val (.int (1 : Int32)), .val (.double (FP.l2d (own_nz ja))), .second, .val (.double (FP.i2d jb)), .second, .val (.double (FP.l2d (own_nz jc))), .second, .val (.ref b15), .val (.ref b19), .val (.ref b34), .val (.ref b50), .val (.ref b64), .val (.ref b79), .val (.int (0 : Int32)), .val (.int (1 : Int32)), .val (.ref r164), .val (.double (FP.ddiv (FP.i2d j0) (FP.l2d (own_nz jc)))), .second, .unset, .unset]) rfl ?_
      show Steps p.tables e below (T164.setTop (mkF m 202 #[.val (.int fl), .val (.int ja), .val (.int jb), .val (.int jc), .val (.int j0), .val (.int j1), .val (.int (1 : Int32)), .val (.int (0 : Int32)), .val (.int (0 : Int32)), .val (.int (1 : Int32)), .val (.double (FP.l2d (own_nz ja))), .second, .val (.double (FP.i2d jb)), .second, .val (.double (FP.l2d (own_nz jc))), .second, .val (.ref b15), .val (.ref b19), .val (.ref b34), .val (.ref b50), .val (.ref b64), .val (.ref b79), .val (.int (0 : Int32)), .val (.int (1 : Int32)), .val (.ref r164), .val (.double (FP.ddiv (FP.i2d j0) (FP.l2d (own_nz jc)))), .second, .unset, .unset] [])) _
      refine XS.aload X164.here hx rfl (hb hby at_202) rfl rfl ?_
      show Steps p.tables e below (T164.setTop (mkF m 204 #[.val (.int fl), .val (.int ja), .val (.int jb), .val (.int jc), .val (.int j0), .val (.int j1), .val (.int (1 : Int32)), .val (.int (0 : Int32)), .val (.int (0 : Int32)), .val (.int (1 : Int32)), .val (.double (FP.l2d (own_nz ja))), .second, .val (.double (FP.i2d jb)), .second, .val (.double (FP.l2d (own_nz jc))), .second, .val (.ref b15), .val (.ref b19), .val (.ref b34), .val (.ref b50), .val (.ref b64), .val (.ref b79), .val (.int (0 : Int32)), .val (.int (1 : Int32)), .val (.ref r164), .val (.double (FP.ddiv (FP.i2d j0) (FP.l2d (own_nz jc)))), .second, .unset, .unset] [(.ref b79)])) _
      refine XS.iload X164.here hx rfl (hb hby at_204) rfl ?_
      show Steps p.tables e below (T164.setTop (mkF m 206 #[.val (.int fl), .val (.int ja), .val (.int jb), .val (.int jc), .val (.int j0), .val (.int j1), .val (.int (1 : Int32)), .val (.int (0 : Int32)), .val (.int (0 : Int32)), .val (.int (1 : Int32)), .val (.double (FP.l2d (own_nz ja))), .second, .val (.double (FP.i2d jb)), .second, .val (.double (FP.l2d (own_nz jc))), .second, .val (.ref b15), .val (.ref b19), .val (.ref b34), .val (.ref b50), .val (.ref b64), .val (.ref b79), .val (.int (0 : Int32)), .val (.int (1 : Int32)), .val (.ref r164), .val (.double (FP.ddiv (FP.i2d j0) (FP.l2d (own_nz jc)))), .second, .unset, .unset] [(.int (1 : Int32)), (.ref b79)])) _
      exact kt
    obtain ⟨cl169, Ar169, qq169, S169, M169, H169, GG169⟩ := id f166
    have hin169 : ¬ ((1 : Int32) < 0 ∨ cl169.slots.size ≤ ((1 : Int32)).toNatClampNeg) := inb_of S169 ⟨by decide, by decide⟩
    have hat169 : cl169.slots[((1 : Int32)).toNatClampNeg]? = some (.double (FP.i2d j1)) := Has.at H169 hin169 rfl
    have K170 : ∀ t, Steps p.tables e below (T164.setTop (mkF m 220 #[.val (.int fl), .val (.int ja), .val (.int jb), .val (.int jc), .val (.int j0), .val (.int j1), .val (.int (1 : Int32)), .val (.int (0 : Int32)), .val (.int (0 : Int32)), .val (.int (1 : Int32)), .val (.double (FP.l2d (own_nz ja))), .second, .val (.double (FP.i2d jb)), .second, .val (.double (FP.l2d (own_nz jc))), .second, .val (.ref b15), .val (.ref b19), .val (.ref b34), .val (.ref b50), .val (.ref b64), .val (.ref b79), .val (.int (0 : Int32)), .val (.int (1 : Int32)), .val (.ref r164), .val (.double (FP.ddiv (FP.i2d j0) (FP.l2d (own_nz jc)))), .second, .val (.double (FP.ddiv (FP.dsub (FP.i2d j1) (FP.dmul (FP.i2d jb) (FP.ddiv (FP.i2d j0) (FP.l2d (own_nz jc))))) (FP.l2d (own_nz ja)))), .second] [(.ref r164)])) t → Steps p.tables e below G0 t := by
      intro t kt
      refine K168 t ?_
      refine X164.daload hx (j := (1 : Int32)) (v := (.double (FP.i2d j1))) (by rw [(rfl : T164.heap = _)]; exact (Ar169).1) (State.isArrayOf_alike hZ.alike (Ar169).2.1) (Ar169).2.2 hin169 hat169 (g := (mkF m 206 #[.val (.int fl), .val (.int ja), .val (.int jb), .val (.int jc), .val (.int j0), .val (.int j1), .val (.int (1 : Int32)), .val (.int (0 : Int32)), .val (.int (0 : Int32)), .val (.int (1 : Int32)), .val (.double (FP.l2d (own_nz ja))), .second, .val (.double (FP.i2d jb)), .second, .val (.double (FP.l2d (own_nz jc))), .second, .val (.ref b15), .val (.ref b19), .val (.ref b34), .val (.ref b50), .val (.ref b64), .val (.ref b79), .val (.int (0 : Int32)), .val (.int (1 : Int32)), .val (.ref r164), .val (.double (FP.ddiv (FP.i2d j0) (FP.l2d (own_nz jc)))), .second, .unset, .unset] [(.int (1 : Int32)), (.ref b79)])) rfl rfl (hb hby at_206) _ ?_
      show Steps p.tables e below (T164.setTop (mkF m 207 #[.val (.int fl), .val (.int ja), .val (.int jb), .val (.int jc), .val (.int j0), .val (.int j1), .val (.int (1 : Int32)), .val (.int (0 : Int32)), .val (.int (0 : Int32)), .val (.int (1 : Int32)), .val (.double (FP.l2d (own_nz ja))), .second, .val (.double (FP.i2d jb)), .second, .val (.double (FP.l2d (own_nz jc))), .second, .val (.ref b15), .val (.ref b19), .val (.ref b34), .val (.ref b50), .val (.ref b64), .val (.ref b79), .val (.int (0 : Int32)), .val (.int (1 : Int32)), .val (.ref r164), .val (.double (FP.ddiv (FP.i2d j0) (FP.l2d (own_nz jc)))), .second, .unset, .unset] [(.double (FP.i2d j1))])) _
      refine XS.dload X164.here hx rfl (hb hby at_207) rfl ?_
      show Steps p.tables e below (T164.setTop (mkF m 209 #[.val (.int fl), .val (.int ja), .val (.int jb), .val (.int jc), .val (.int j0), .val (.int j1), .val (.int (1 : Int32)), .val (.int (0 : Int32)), .val (.int (0 : Int32)), .val (.int (1 : Int32)), .val (.double (FP.l2d (own_nz ja))), .second, .val (.double (FP.i2d jb)), .second, .val (.double (FP.l2d (own_nz jc))), .second, .val (.ref b15), .val (.ref b19), .val (.ref b34), .val (.ref b50), .val (.ref b64), .val (.ref b79), .val (.int (0 : Int32)), .val (.int (1 : Int32)), .val (.ref r164), .val (.double (FP.ddiv (FP.i2d j0) (FP.l2d (own_nz jc)))), .second, .unset, .unset] [(.double (FP.i2d jb)), (.double (FP.i2d j1))])) _
      refine XS.dload X164.here hx rfl (hb hby at_209) rfl ?_
      show Steps p.tables e below (T164.setTop (mkF m 211 #[.val (.int fl), .val (.int ja), .val (.int jb), .val (.int jc), .val (.int j0), .val (.int j1), .val (.int (1 : Int32)), .val (.int (0 : Int32)), .val (.int (0 : Int32)), .val (.int (1 : Int32)), .val (.double (FP.l2d (own_nz ja))), .second, .val (.double (FP.i2d jb)), .second, .val (.double (FP.l2d (own_nz jc))), .second, .val (.ref b15), .val (.ref b19), .val (.ref b34), .val (.ref b50), .val (.ref b64), .val (.ref b79), .val (.int (0 : Int32)), .val (.int (1 : Int32)), .val (.ref r164), .val (.double (FP.ddiv (FP.i2d j0) (FP.l2d (own_nz jc)))), .second, .unset, .unset] [(.double (FP.ddiv (FP.i2d j0) (FP.l2d (own_nz jc)))), (.double (FP.i2d jb)), (.double (FP.i2d j1))])) _
      refine XS.dmulS X164.here hx rfl (hb hby at_211) rfl (own_n2 jb j0 _ hD) rfl ?_
      show Steps p.tables e below (T164.setTop (mkF m 212 #[.val (.int fl), .val (.int ja), .val (.int jb), .val (.int jc), .val (.int j0), .val (.int j1), .val (.int (1 : Int32)), .val (.int (0 : Int32)), .val (.int (0 : Int32)), .val (.int (1 : Int32)), .val (.double (FP.l2d (own_nz ja))), .second, .val (.double (FP.i2d jb)), .second, .val (.double (FP.l2d (own_nz jc))), .second, .val (.ref b15), .val (.ref b19), .val (.ref b34), .val (.ref b50), .val (.ref b64), .val (.ref b79), .val (.int (0 : Int32)), .val (.int (1 : Int32)), .val (.ref r164), .val (.double (FP.ddiv (FP.i2d j0) (FP.l2d (own_nz jc)))), .second, .unset, .unset] [(.double (FP.dmul (FP.i2d jb) (FP.ddiv (FP.i2d j0) (FP.l2d (own_nz jc))))), (.double (FP.i2d j1))])) _
      refine XS.dsubS X164.here hx rfl (hb hby at_212) rfl (own_n3 j1 jb j0 _ hD) rfl ?_
      show Steps p.tables e below (T164.setTop (mkF m 213 #[.val (.int fl), .val (.int ja), .val (.int jb), .val (.int jc), .val (.int j0), .val (.int j1), .val (.int (1 : Int32)), .val (.int (0 : Int32)), .val (.int (0 : Int32)), .val (.int (1 : Int32)), .val (.double (FP.l2d (own_nz ja))), .second, .val (.double (FP.i2d jb)), .second, .val (.double (FP.l2d (own_nz jc))), .second, .val (.ref b15), .val (.ref b19), .val (.ref b34), .val (.ref b50), .val (.ref b64), .val (.ref b79), .val (.int (0 : Int32)), .val (.int (1 : Int32)), .val (.ref r164), .val (.double (FP.ddiv (FP.i2d j0) (FP.l2d (own_nz jc)))), .second, .unset, .unset] [(.double (FP.dsub (FP.i2d j1) (FP.dmul (FP.i2d jb) (FP.ddiv (FP.i2d j0) (FP.l2d (own_nz jc))))))])) _
      refine XS.dload X164.here hx rfl (hb hby at_213) rfl ?_
      show Steps p.tables e below (T164.setTop (mkF m 215 #[.val (.int fl), .val (.int ja), .val (.int jb), .val (.int jc), .val (.int j0), .val (.int j1), .val (.int (1 : Int32)), .val (.int (0 : Int32)), .val (.int (0 : Int32)), .val (.int (1 : Int32)), .val (.double (FP.l2d (own_nz ja))), .second, .val (.double (FP.i2d jb)), .second, .val (.double (FP.l2d (own_nz jc))), .second, .val (.ref b15), .val (.ref b19), .val (.ref b34), .val (.ref b50), .val (.ref b64), .val (.ref b79), .val (.int (0 : Int32)), .val (.int (1 : Int32)), .val (.ref r164), .val (.double (FP.ddiv (FP.i2d j0) (FP.l2d (own_nz jc)))), .second, .unset, .unset] [(.double (FP.l2d (own_nz ja))), (.double (FP.dsub (FP.i2d j1) (FP.dmul (FP.i2d jb) (FP.ddiv (FP.i2d j0) (FP.l2d (own_nz jc))))))])) _
      refine XS.ddivS X164.here hx rfl (hb hby at_215) rfl (own_n4 j1 jb j0 _ _ hD hA) rfl ?_
      show Steps p.tables e below (T164.setTop (mkF m 216 #[.val (.int fl), .val (.int ja), .val (.int jb), .val (.int jc), .val (.int j0), .val (.int j1), .val (.int (1 : Int32)), .val (.int (0 : Int32)), .val (.int (0 : Int32)), .val (.int (1 : Int32)), .val (.double (FP.l2d (own_nz ja))), .second, .val (.double (FP.i2d jb)), .second, .val (.double (FP.l2d (own_nz jc))), .second, .val (.ref b15), .val (.ref b19), .val (.ref b34), .val (.ref b50), .val (.ref b64), .val (.ref b79), .val (.int (0 : Int32)), .val (.int (1 : Int32)), .val (.ref r164), .val (.double (FP.ddiv (FP.i2d j0) (FP.l2d (own_nz jc)))), .second, .unset, .unset] [(.double (FP.ddiv (FP.dsub (FP.i2d j1) (FP.dmul (FP.i2d jb) (FP.ddiv (FP.i2d j0) (FP.l2d (own_nz jc))))) (FP.l2d (own_nz ja))))])) _
      refine XS.dstore X164.here hx rfl (hb hby at_216) rfl (l' := #[.val (.int fl), .val (.int ja), .val (.int jb), .val (.int jc), .val (.int j0), .val (.int j1), .val (.int (1 : Int32)), .val (.int (0 : Int32)), .val (.int (0 : Int32)), .val (.int (1 : Int32)), .val (.double (FP.l2d (own_nz ja))), .second, .val (.double (FP.i2d jb)), .second, .val (.double (FP.l2d (own_nz jc))), .second, .val (.ref b15), .val (.ref b19), .val (.ref b34), .val (.ref b50), .val (.ref b64), .val (.ref b79), .val (.int (0 : Int32)), .val (.int (1 : Int32)), .val (.ref r164), .val (.double (FP.ddiv (FP.i2d j0) (FP.l2d (own_nz jc)))), .second, .val (.double (FP.ddiv (FP.dsub (FP.i2d j1) (FP.dmul (FP.i2d jb) (FP.ddiv (FP.i2d j0) (FP.l2d (own_nz jc))))) (FP.l2d (own_nz ja)))), .second]) rfl ?_
      show Steps p.tables e below (T164.setTop (mkF m 218 #[.val (.int fl), .val (.int ja), .val (.int jb), .val (.int jc), .val (.int j0), .val (.int j1), .val (.int (1 : Int32)), .val (.int (0 : Int32)), .val (.int (0 : Int32)), .val (.int (1 : Int32)), .val (.double (FP.l2d (own_nz ja))), .second, .val (.double (FP.i2d jb)), .second, .val (.double (FP.l2d (own_nz jc))), .second, .val (.ref b15), .val (.ref b19), .val (.ref b34), .val (.ref b50), .val (.ref b64), .val (.ref b79), .val (.int (0 : Int32)), .val (.int (1 : Int32)), .val (.ref r164), .val (.double (FP.ddiv (FP.i2d j0) (FP.l2d (own_nz jc)))), .second, .val (.double (FP.ddiv (FP.dsub (FP.i2d j1) (FP.dmul (FP.i2d jb) (FP.ddiv (FP.i2d j0) (FP.l2d (own_nz jc))))) (FP.l2d (own_nz ja)))), .second] [])) _
      refine XS.aload X164.here hx rfl (hb hby at_218) rfl rfl ?_
      show Steps p.tables e below (T164.setTop (mkF m 220 #[.val (.int fl), .val (.int ja), .val (.int jb), .val (.int jc), .val (.int j0), .val (.int j1), .val (.int (1 : Int32)), .val (.int (0 : Int32)), .val (.int (0 : Int32)), .val (.int (1 : Int32)), .val (.double (FP.l2d (own_nz ja))), .second, .val (.double (FP.i2d jb)), .second, .val (.double (FP.l2d (own_nz jc))), .second, .val (.ref b15), .val (.ref b19), .val (.ref b34), .val (.ref b50), .val (.ref b64), .val (.ref b79), .val (.int (0 : Int32)), .val (.int (1 : Int32)), .val (.ref r164), .val (.double (FP.ddiv (FP.i2d j0) (FP.l2d (own_nz jc)))), .second, .val (.double (FP.ddiv (FP.dsub (FP.i2d j1) (FP.dmul (FP.i2d jb) (FP.ddiv (FP.i2d j0) (FP.l2d (own_nz jc))))) (FP.l2d (own_nz ja)))), .second] [(.ref r164)])) _
      exact kt
    obtain ⟨cl171, Ar171, qq171, S171, M171, H171, GG171⟩ := id VX164
    have K172 : ∀ t, Steps p.tables e below (T164.setTop (mkF m 229 #[.val (.int fl), .val (.int ja), .val (.int jb), .val (.int jc), .val (.int j0), .val (.int j1), .val (.int (1 : Int32)), .val (.int (0 : Int32)), .val (.int (0 : Int32)), .val (.int (1 : Int32)), .val (.double (FP.l2d (own_nz ja))), .second, .val (.double (FP.i2d jb)), .second, .val (.double (FP.l2d (own_nz jc))), .second, .val (.ref b15), .val (.ref b19), .val (.ref b34), .val (.ref b50), .val (.ref b64), .val (.ref b79), .val (.int (0 : Int32)), .val (.int (1 : Int32)), .val (.ref r164), .val (.double (FP.ddiv (FP.i2d j0) (FP.l2d (own_nz jc)))), .second, .val (.double (FP.ddiv (FP.dsub (FP.i2d j1) (FP.dmul (FP.i2d jb) (FP.ddiv (FP.i2d j0) (FP.l2d (own_nz jc))))) (FP.l2d (own_nz ja)))), .second] [(.int (1 : Int32)), (.ref r164)])) t → Steps p.tables e below G0 t := by
      intro t kt
      refine K170 t ?_
      refine X164.arraylength hx (by rw [(rfl : T164.heap = _)]; exact (Ar171).1) (State.isArrayOf_alike hZ.alike (Ar171).2.1) (g := (mkF m 220 #[.val (.int fl), .val (.int ja), .val (.int jb), .val (.int jc), .val (.int j0), .val (.int j1), .val (.int (1 : Int32)), .val (.int (0 : Int32)), .val (.int (0 : Int32)), .val (.int (1 : Int32)), .val (.double (FP.l2d (own_nz ja))), .second, .val (.double (FP.i2d jb)), .second, .val (.double (FP.l2d (own_nz jc))), .second, .val (.ref b15), .val (.ref b19), .val (.ref b34), .val (.ref b50), .val (.ref b64), .val (.ref b79), .val (.int (0 : Int32)), .val (.int (1 : Int32)), .val (.ref r164), .val (.double (FP.ddiv (FP.i2d j0) (FP.l2d (own_nz jc)))), .second, .val (.double (FP.ddiv (FP.dsub (FP.i2d j1) (FP.dmul (FP.i2d jb) (FP.ddiv (FP.i2d j0) (FP.l2d (own_nz jc))))) (FP.l2d (own_nz ja)))), .second] [(.ref r164)])) rfl rfl (hb hby at_220) _ ?_
      rw [len_of S171 M171]
      show Steps p.tables e below (T164.setTop (mkF m 221 #[.val (.int fl), .val (.int ja), .val (.int jb), .val (.int jc), .val (.int j0), .val (.int j1), .val (.int (1 : Int32)), .val (.int (0 : Int32)), .val (.int (0 : Int32)), .val (.int (1 : Int32)), .val (.double (FP.l2d (own_nz ja))), .second, .val (.double (FP.i2d jb)), .second, .val (.double (FP.l2d (own_nz jc))), .second, .val (.ref b15), .val (.ref b19), .val (.ref b34), .val (.ref b50), .val (.ref b64), .val (.ref b79), .val (.int (0 : Int32)), .val (.int (1 : Int32)), .val (.ref r164), .val (.double (FP.ddiv (FP.i2d j0) (FP.l2d (own_nz jc)))), .second, .val (.double (FP.ddiv (FP.dsub (FP.i2d j1) (FP.dmul (FP.i2d jb) (FP.ddiv (FP.i2d j0) (FP.l2d (own_nz jc))))) (FP.l2d (own_nz ja)))), .second] [(.int (2 : Int32))])) _
      refine XS.iconst X164.here hx rfl (hb hby at_221) ?_
      show Steps p.tables e below (T164.setTop (mkF m 222 #[.val (.int fl), .val (.int ja), .val (.int jb), .val (.int jc), .val (.int j0), .val (.int j1), .val (.int (1 : Int32)), .val (.int (0 : Int32)), .val (.int (0 : Int32)), .val (.int (1 : Int32)), .val (.double (FP.l2d (own_nz ja))), .second, .val (.double (FP.i2d jb)), .second, .val (.double (FP.l2d (own_nz jc))), .second, .val (.ref b15), .val (.ref b19), .val (.ref b34), .val (.ref b50), .val (.ref b64), .val (.ref b79), .val (.int (0 : Int32)), .val (.int (1 : Int32)), .val (.ref r164), .val (.double (FP.ddiv (FP.i2d j0) (FP.l2d (own_nz jc)))), .second, .val (.double (FP.ddiv (FP.dsub (FP.i2d j1) (FP.dmul (FP.i2d jb) (FP.ddiv (FP.i2d j0) (FP.l2d (own_nz jc))))) (FP.l2d (own_nz ja)))), .second] [(.int (2 : Int32)), (.int (2 : Int32))])) _
      refine XS.icmpNo X164.here hx rfl (hb hby at_222) rfl (teq (by decide)).2 ?_
      show Steps p.tables e below (T164.setTop (mkF m 225 #[.val (.int fl), .val (.int ja), .val (.int jb), .val (.int jc), .val (.int j0), .val (.int j1), .val (.int (1 : Int32)), .val (.int (0 : Int32)), .val (.int (0 : Int32)), .val (.int (1 : Int32)), .val (.double (FP.l2d (own_nz ja))), .second, .val (.double (FP.i2d jb)), .second, .val (.double (FP.l2d (own_nz jc))), .second, .val (.ref b15), .val (.ref b19), .val (.ref b34), .val (.ref b50), .val (.ref b64), .val (.ref b79), .val (.int (0 : Int32)), .val (.int (1 : Int32)), .val (.ref r164), .val (.double (FP.ddiv (FP.i2d j0) (FP.l2d (own_nz jc)))), .second, .val (.double (FP.ddiv (FP.dsub (FP.i2d j1) (FP.dmul (FP.i2d jb) (FP.ddiv (FP.i2d j0) (FP.l2d (own_nz jc))))) (FP.l2d (own_nz ja)))), .second] [])) _
      refine XS.aload X164.here hx rfl (hb hby at_225) rfl rfl ?_
      show Steps p.tables e below (T164.setTop (mkF m 227 #[.val (.int fl), .val (.int ja), .val (.int jb), .val (.int jc), .val (.int j0), .val (.int j1), .val (.int (1 : Int32)), .val (.int (0 : Int32)), .val (.int (0 : Int32)), .val (.int (1 : Int32)), .val (.double (FP.l2d (own_nz ja))), .second, .val (.double (FP.i2d jb)), .second, .val (.double (FP.l2d (own_nz jc))), .second, .val (.ref b15), .val (.ref b19), .val (.ref b34), .val (.ref b50), .val (.ref b64), .val (.ref b79), .val (.int (0 : Int32)), .val (.int (1 : Int32)), .val (.ref r164), .val (.double (FP.ddiv (FP.i2d j0) (FP.l2d (own_nz jc)))), .second, .val (.double (FP.ddiv (FP.dsub (FP.i2d j1) (FP.dmul (FP.i2d jb) (FP.ddiv (FP.i2d j0) (FP.l2d (own_nz jc))))) (FP.l2d (own_nz ja)))), .second] [(.ref r164)])) _
      refine XS.iload X164.here hx rfl (hb hby at_227) rfl ?_
      show Steps p.tables e below (T164.setTop (mkF m 229 #[.val (.int fl), .val (.int ja), .val (.int jb), .val (.int jc), .val (.int j0), .val (.int j1), .val (.int (1 : Int32)), .val (.int (0 : Int32)), .val (.int (0 : Int32)), .val (.int (1 : Int32)), .val (.double (FP.l2d (own_nz ja))), .second, .val (.double (FP.i2d jb)), .second, .val (.double (FP.l2d (own_nz jc))), .second, .val (.ref b15), .val (.ref b19), .val (.ref b34), .val (.ref b50), .val (.ref b64), .val (.ref b79), .val (.int (0 : Int32)), .val (.int (1 : Int32)), .val (.ref r164), .val (.double (FP.ddiv (FP.i2d j0) (FP.l2d (own_nz jc)))), .second, .val (.double (FP.ddiv (FP.dsub (FP.i2d j1) (FP.dmul (FP.i2d jb) (FP.ddiv (FP.i2d j0) (FP.l2d (own_nz jc))))) (FP.l2d (own_nz ja)))), .second] [(.int (1 : Int32)), (.ref r164)])) _
      exact kt
    obtain ⟨cl173, Ar173, qq173, S173, M173, H173, GG173⟩ := id VX164
    have hin173 : ¬ ((1 : Int32) < 0 ∨ cl173.slots.size ≤ ((1 : Int32)).toNatClampNeg) := inb_of S173 ⟨by decide, by decide⟩
    have hat173 : cl173.slots[((1 : Int32)).toNatClampNeg]? = some (.double (FP.ddiv (FP.i2d j0) (FP.l2d (own_nz jc)))) := Has.at H173 hin173 rfl
    have K174 : ∀ t, Steps p.tables e below (T164.setTop (mkF m 233 #[.val (.int fl), .val (.int ja), .val (.int jb), .val (.int jc), .val (.int j0), .val (.int j1), .val (.int (1 : Int32)), .val (.int (0 : Int32)), .val (.int (0 : Int32)), .val (.int (1 : Int32)), .val (.double (FP.l2d (own_nz ja))), .second, .val (.double (FP.i2d jb)), .second, .val (.double (FP.l2d (own_nz jc))), .second, .val (.ref b15), .val (.ref b19), .val (.ref b34), .val (.ref b50), .val (.ref b64), .val (.ref b79), .val (.int (0 : Int32)), .val (.int (1 : Int32)), .val (.ref r164), .val (.double (FP.ddiv (FP.i2d j0) (FP.l2d (own_nz jc)))), .second, .val (.double (FP.ddiv (FP.dsub (FP.i2d j1) (FP.dmul (FP.i2d jb) (FP.ddiv (FP.i2d j0) (FP.l2d (own_nz jc))))) (FP.l2d (own_nz ja)))), .second] [(.int (cmpValue (FP.dcmp (FP.ddiv (FP.i2d j0) (FP.l2d (own_nz jc))) (FP.ddiv (FP.i2d j0) (FP.l2d (own_nz jc)))) .l))])) t → Steps p.tables e below G0 t := by
      intro t kt
      refine K172 t ?_
      refine X164.daload hx (j := (1 : Int32)) (v := (.double (FP.ddiv (FP.i2d j0) (FP.l2d (own_nz jc))))) (by rw [(rfl : T164.heap = _)]; exact (Ar173).1) (State.isArrayOf_alike hZ.alike (Ar173).2.1) (Ar173).2.2 hin173 hat173 (g := (mkF m 229 #[.val (.int fl), .val (.int ja), .val (.int jb), .val (.int jc), .val (.int j0), .val (.int j1), .val (.int (1 : Int32)), .val (.int (0 : Int32)), .val (.int (0 : Int32)), .val (.int (1 : Int32)), .val (.double (FP.l2d (own_nz ja))), .second, .val (.double (FP.i2d jb)), .second, .val (.double (FP.l2d (own_nz jc))), .second, .val (.ref b15), .val (.ref b19), .val (.ref b34), .val (.ref b50), .val (.ref b64), .val (.ref b79), .val (.int (0 : Int32)), .val (.int (1 : Int32)), .val (.ref r164), .val (.double (FP.ddiv (FP.i2d j0) (FP.l2d (own_nz jc)))), .second, .val (.double (FP.ddiv (FP.dsub (FP.i2d j1) (FP.dmul (FP.i2d jb) (FP.ddiv (FP.i2d j0) (FP.l2d (own_nz jc))))) (FP.l2d (own_nz ja)))), .second] [(.int (1 : Int32)), (.ref r164)])) rfl rfl (hb hby at_229) _ ?_
      show Steps p.tables e below (T164.setTop (mkF m 230 #[.val (.int fl), .val (.int ja), .val (.int jb), .val (.int jc), .val (.int j0), .val (.int j1), .val (.int (1 : Int32)), .val (.int (0 : Int32)), .val (.int (0 : Int32)), .val (.int (1 : Int32)), .val (.double (FP.l2d (own_nz ja))), .second, .val (.double (FP.i2d jb)), .second, .val (.double (FP.l2d (own_nz jc))), .second, .val (.ref b15), .val (.ref b19), .val (.ref b34), .val (.ref b50), .val (.ref b64), .val (.ref b79), .val (.int (0 : Int32)), .val (.int (1 : Int32)), .val (.ref r164), .val (.double (FP.ddiv (FP.i2d j0) (FP.l2d (own_nz jc)))), .second, .val (.double (FP.ddiv (FP.dsub (FP.i2d j1) (FP.dmul (FP.i2d jb) (FP.ddiv (FP.i2d j0) (FP.l2d (own_nz jc))))) (FP.l2d (own_nz ja)))), .second] [(.double (FP.ddiv (FP.i2d j0) (FP.l2d (own_nz jc))))])) _
      refine XS.dload X164.here hx rfl (hb hby at_230) rfl ?_
      show Steps p.tables e below (T164.setTop (mkF m 232 #[.val (.int fl), .val (.int ja), .val (.int jb), .val (.int jc), .val (.int j0), .val (.int j1), .val (.int (1 : Int32)), .val (.int (0 : Int32)), .val (.int (0 : Int32)), .val (.int (1 : Int32)), .val (.double (FP.l2d (own_nz ja))), .second, .val (.double (FP.i2d jb)), .second, .val (.double (FP.l2d (own_nz jc))), .second, .val (.ref b15), .val (.ref b19), .val (.ref b34), .val (.ref b50), .val (.ref b64), .val (.ref b79), .val (.int (0 : Int32)), .val (.int (1 : Int32)), .val (.ref r164), .val (.double (FP.ddiv (FP.i2d j0) (FP.l2d (own_nz jc)))), .second, .val (.double (FP.ddiv (FP.dsub (FP.i2d j1) (FP.dmul (FP.i2d jb) (FP.ddiv (FP.i2d j0) (FP.l2d (own_nz jc))))) (FP.l2d (own_nz ja)))), .second] [(.double (FP.ddiv (FP.i2d j0) (FP.l2d (own_nz jc)))), (.double (FP.ddiv (FP.i2d j0) (FP.l2d (own_nz jc))))])) _
      refine XS.dcmpS X164.here hx rfl (hb hby at_232) rfl rfl ?_
      show Steps p.tables e below (T164.setTop (mkF m 233 #[.val (.int fl), .val (.int ja), .val (.int jb), .val (.int jc), .val (.int j0), .val (.int j1), .val (.int (1 : Int32)), .val (.int (0 : Int32)), .val (.int (0 : Int32)), .val (.int (1 : Int32)), .val (.double (FP.l2d (own_nz ja))), .second, .val (.double (FP.i2d jb)), .second, .val (.double (FP.l2d (own_nz jc))), .second, .val (.ref b15), .val (.ref b19), .val (.ref b34), .val (.ref b50), .val (.ref b64), .val (.ref b79), .val (.int (0 : Int32)), .val (.int (1 : Int32)), .val (.ref r164), .val (.double (FP.ddiv (FP.i2d j0) (FP.l2d (own_nz jc)))), .second, .val (.double (FP.ddiv (FP.dsub (FP.i2d j1) (FP.dmul (FP.i2d jb) (FP.ddiv (FP.i2d j0) (FP.l2d (own_nz jc))))) (FP.l2d (own_nz ja)))), .second] [(.int (cmpValue (FP.dcmp (FP.ddiv (FP.i2d j0) (FP.l2d (own_nz jc))) (FP.ddiv (FP.i2d j0) (FP.l2d (own_nz jc)))) .l))])) _
      exact kt
    have K175 : ∀ t, Steps p.tables e below (T164.setTop (mkF m 240 #[.val (.int fl), .val (.int ja), .val (.int jb), .val (.int jc), .val (.int j0), .val (.int j1), .val (.int (1 : Int32)), .val (.int (0 : Int32)), .val (.int (0 : Int32)), .val (.int (1 : Int32)), .val (.double (FP.l2d (own_nz ja))), .second, .val (.double (FP.i2d jb)), .second, .val (.double (FP.l2d (own_nz jc))), .second, .val (.ref b15), .val (.ref b19), .val (.ref b34), .val (.ref b50), .val (.ref b64), .val (.ref b79), .val (.int (0 : Int32)), .val (.int (1 : Int32)), .val (.ref r164), .val (.double (FP.ddiv (FP.i2d j0) (FP.l2d (own_nz jc)))), .second, .val (.double (FP.ddiv (FP.dsub (FP.i2d j1) (FP.dmul (FP.i2d jb) (FP.ddiv (FP.i2d j0) (FP.l2d (own_nz jc))))) (FP.l2d (own_nz ja)))), .second] [(.int (0 : Int32)), (.ref r164)])) t → Steps p.tables e below G0 t := by
      intro t kt
      refine K174 t ?_
      refine XS.ifNo X164.here hx rfl (hb hby at_233) rfl ((if0 _ _).trans (teq (dcmpV_self (own_n1 j0 _ hD) .l)).2) ?_
      show Steps p.tables e below (T164.setTop (mkF m 236 #[.val (.int fl), .val (.int ja), .val (.int jb), .val (.int jc), .val (.int j0), .val (.int j1), .val (.int (1 : Int32)), .val (.int (0 : Int32)), .val (.int (0 : Int32)), .val (.int (1 : Int32)), .val (.double (FP.l2d (own_nz ja))), .second, .val (.double (FP.i2d jb)), .second, .val (.double (FP.l2d (own_nz jc))), .second, .val (.ref b15), .val (.ref b19), .val (.ref b34), .val (.ref b50), .val (.ref b64), .val (.ref b79), .val (.int (0 : Int32)), .val (.int (1 : Int32)), .val (.ref r164), .val (.double (FP.ddiv (FP.i2d j0) (FP.l2d (own_nz jc)))), .second, .val (.double (FP.ddiv (FP.dsub (FP.i2d j1) (FP.dmul (FP.i2d jb) (FP.ddiv (FP.i2d j0) (FP.l2d (own_nz jc))))) (FP.l2d (own_nz ja)))), .second] [])) _
      refine XS.aload X164.here hx rfl (hb hby at_236) rfl rfl ?_
      show Steps p.tables e below (T164.setTop (mkF m 238 #[.val (.int fl), .val (.int ja), .val (.int jb), .val (.int jc), .val (.int j0), .val (.int j1), .val (.int (1 : Int32)), .val (.int (0 : Int32)), .val (.int (0 : Int32)), .val (.int (1 : Int32)), .val (.double (FP.l2d (own_nz ja))), .second, .val (.double (FP.i2d jb)), .second, .val (.double (FP.l2d (own_nz jc))), .second, .val (.ref b15), .val (.ref b19), .val (.ref b34), .val (.ref b50), .val (.ref b64), .val (.ref b79), .val (.int (0 : Int32)), .val (.int (1 : Int32)), .val (.ref r164), .val (.double (FP.ddiv (FP.i2d j0) (FP.l2d (own_nz jc)))), .second, .val (.double (FP.ddiv (FP.dsub (FP.i2d j1) (FP.dmul (FP.i2d jb) (FP.ddiv (FP.i2d j0) (FP.l2d (own_nz jc))))) (FP.l2d (own_nz ja)))), .second] [(.ref r164)])) _
      refine XS.iload X164.here hx rfl (hb hby at_238) rfl ?_
      show Steps p.tables e below (T164.setTop (mkF m 240 #[.val (.int fl), .val (.int ja), .val (.int jb), .val (.int jc), .val (.int j0), .val (.int j1), .val (.int (1 : Int32)), .val (.int (0 : Int32)), .val (.int (0 : Int32)), .val (.int (1 : Int32)), .val (.double (FP.l2d (own_nz ja))), .second, .val (.double (FP.i2d jb)), .second, .val (.double (FP.l2d (own_nz jc))), .second, .val (.ref b15), .val (.ref b19), .val (.ref b34), .val (.ref b50), .val (.ref b64), .val (.ref b79), .val (.int (0 : Int32)), .val (.int (1 : Int32)), .val (.ref r164), .val (.double (FP.ddiv (FP.i2d j0) (FP.l2d (own_nz jc)))), .second, .val (.double (FP.ddiv (FP.dsub (FP.i2d j1) (FP.dmul (FP.i2d jb) (FP.ddiv (FP.i2d j0) (FP.l2d (own_nz jc))))) (FP.l2d (own_nz ja)))), .second] [(.int (0 : Int32)), (.ref r164)])) _
      exact kt
    obtain ⟨cl176, Ar176, qq176, S176, M176, H176, GG176⟩ := id VX164
    have hin176 : ¬ ((0 : Int32) < 0 ∨ cl176.slots.size ≤ ((0 : Int32)).toNatClampNeg) := inb_of S176 ⟨by decide, by decide⟩
    have hat176 : cl176.slots[((0 : Int32)).toNatClampNeg]? = some (.double (FP.ddiv (FP.dsub (FP.i2d j1) (FP.dmul (FP.i2d jb) (FP.ddiv (FP.i2d j0) (FP.l2d (own_nz jc))))) (FP.l2d (own_nz ja)))) := Has.at H176 hin176 rfl
    have K177 : ∀ t, Steps p.tables e below (T164.setTop (mkF m 244 #[.val (.int fl), .val (.int ja), .val (.int jb), .val (.int jc), .val (.int j0), .val (.int j1), .val (.int (1 : Int32)), .val (.int (0 : Int32)), .val (.int (0 : Int32)), .val (.int (1 : Int32)), .val (.double (FP.l2d (own_nz ja))), .second, .val (.double (FP.i2d jb)), .second, .val (.double (FP.l2d (own_nz jc))), .second, .val (.ref b15), .val (.ref b19), .val (.ref b34), .val (.ref b50), .val (.ref b64), .val (.ref b79), .val (.int (0 : Int32)), .val (.int (1 : Int32)), .val (.ref r164), .val (.double (FP.ddiv (FP.i2d j0) (FP.l2d (own_nz jc)))), .second, .val (.double (FP.ddiv (FP.dsub (FP.i2d j1) (FP.dmul (FP.i2d jb) (FP.ddiv (FP.i2d j0) (FP.l2d (own_nz jc))))) (FP.l2d (own_nz ja)))), .second] [(.int (cmpValue (FP.dcmp (FP.ddiv (FP.dsub (FP.i2d j1) (FP.dmul (FP.i2d jb) (FP.ddiv (FP.i2d j0) (FP.l2d (own_nz jc))))) (FP.l2d (own_nz ja))) (FP.ddiv (FP.dsub (FP.i2d j1) (FP.dmul (FP.i2d jb) (FP.ddiv (FP.i2d j0) (FP.l2d (own_nz jc))))) (FP.l2d (own_nz ja)))) .l))])) t → Steps p.tables e below G0 t := by
      intro t kt
      refine K175 t ?_
      refine X164.daload hx (j := (0 : Int32)) (v := (.double (FP.ddiv (FP.dsub (FP.i2d j1) (FP.dmul (FP.i2d jb) (FP.ddiv (FP.i2d j0) (FP.l2d (own_nz jc))))) (FP.l2d (own_nz ja))))) (by rw [(rfl : T164.heap = _)]; exact (Ar176).1) (State.isArrayOf_alike hZ.alike (Ar176).2.1) (Ar176).2.2 hin176 hat176 (g := (mkF m 240 #[.val (.int fl), .val (.int ja), .val (.int jb), .val (.int jc), .val (.int j0), .val (.int j1), .val (.int (1 : Int32)), .val (.int (0 : Int32)), .val (.int (0 : Int32)), .val (.int (1 : Int32)), .val (.double (FP.l2d (own_nz ja))), .second, .val (.double (FP.i2d jb)), .second, .val (.double (FP.l2d (own_nz jc))), .second, .val (.ref b15), .val (.ref b19), .val (.ref b34), .val (.ref b50), .val (.ref b64), .val (.ref b79), .val (.int (0 : Int32)), .val (.int (1 : Int32)), .val (.ref r164), .val (.double (FP.ddiv (FP.i2d j0) (FP.l2d (own_nz jc)))), .second, .val (.double (FP.ddiv (FP.dsub (FP.i2d j1) (FP.dmul (FP.i2d jb) (FP.ddiv (FP.i2d j0) (FP.l2d (own_nz jc))))) (FP.l2d (own_nz ja)))), .second] [(.int (0 : Int32)), (.ref r164)])) rfl rfl (hb hby at_240) _ ?_
      show Steps p.tables e below (T164.setTop (mkF m 241 #[.val (.int fl), .val (.int ja), .val (.int jb), .val (.int jc), .val (.int j0), .val (.int j1), .val (.int (1 : Int32)), .val (.int (0 : Int32)), .val (.int (0 : Int32)), .val (.int (1 : Int32)), .val (.double (FP.l2d (own_nz ja))), .second, .val (.double (FP.i2d jb)), .second, .val (.double (FP.l2d (own_nz jc))), .second, .val (.ref b15), .val (.ref b19), .val (.ref b34), .val (.ref b50), .val (.ref b64), .val (.ref b79), .val (.int (0 : Int32)), .val (.int (1 : Int32)), .val (.ref r164), .val (.double (FP.ddiv (FP.i2d j0) (FP.l2d (own_nz jc)))), .second, .val (.double (FP.ddiv (FP.dsub (FP.i2d j1) (FP.dmul (FP.i2d jb) (FP.ddiv (FP.i2d j0) (FP.l2d (own_nz jc))))) (FP.l2d (own_nz ja)))), .second] [(.double (FP.ddiv (FP.dsub (FP.i2d j1) (FP.dmul (FP.i2d jb) (FP.ddiv (FP.i2d j0) (FP.l2d (own_nz jc))))) (FP.l2d (own_nz ja))))])) _
      refine XS.dload X164.here hx rfl (hb hby at_241) rfl ?_
      show Steps p.tables e below (T164.setTop (mkF m 243 #[.val (.int fl), .val (.int ja), .val (.int jb), .val (.int jc), .val (.int j0), .val (.int j1), .val (.int (1 : Int32)), .val (.int (0 : Int32)), .val (.int (0 : Int32)), .val (.int (1 : Int32)), .val (.double (FP.l2d (own_nz ja))), .second, .val (.double (FP.i2d jb)), .second, .val (.double (FP.l2d (own_nz jc))), .second, .val (.ref b15), .val (.ref b19), .val (.ref b34), .val (.ref b50), .val (.ref b64), .val (.ref b79), .val (.int (0 : Int32)), .val (.int (1 : Int32)), .val (.ref r164), .val (.double (FP.ddiv (FP.i2d j0) (FP.l2d (own_nz jc)))), .second, .val (.double (FP.ddiv (FP.dsub (FP.i2d j1) (FP.dmul (FP.i2d jb) (FP.ddiv (FP.i2d j0) (FP.l2d (own_nz jc))))) (FP.l2d (own_nz ja)))), .second] [(.double (FP.ddiv (FP.dsub (FP.i2d j1) (FP.dmul (FP.i2d jb) (FP.ddiv (FP.i2d j0) (FP.l2d (own_nz jc))))) (FP.l2d (own_nz ja)))), (.double (FP.ddiv (FP.dsub (FP.i2d j1) (FP.dmul (FP.i2d jb) (FP.ddiv (FP.i2d j0) (FP.l2d (own_nz jc))))) (FP.l2d (own_nz ja))))])) _
      refine XS.dcmpS X164.here hx rfl (hb hby at_243) rfl rfl ?_
      show Steps p.tables e below (T164.setTop (mkF m 244 #[.val (.int fl), .val (.int ja), .val (.int jb), .val (.int jc), .val (.int j0), .val (.int j1), .val (.int (1 : Int32)), .val (.int (0 : Int32)), .val (.int (0 : Int32)), .val (.int (1 : Int32)), .val (.double (FP.l2d (own_nz ja))), .second, .val (.double (FP.i2d jb)), .second, .val (.double (FP.l2d (own_nz jc))), .second, .val (.ref b15), .val (.ref b19), .val (.ref b34), .val (.ref b50), .val (.ref b64), .val (.ref b79), .val (.int (0 : Int32)), .val (.int (1 : Int32)), .val (.ref r164), .val (.double (FP.ddiv (FP.i2d j0) (FP.l2d (own_nz jc)))), .second, .val (.double (FP.ddiv (FP.dsub (FP.i2d j1) (FP.dmul (FP.i2d jb) (FP.ddiv (FP.i2d j0) (FP.l2d (own_nz jc))))) (FP.l2d (own_nz ja)))), .second] [(.int (cmpValue (FP.dcmp (FP.ddiv (FP.dsub (FP.i2d j1) (FP.dmul (FP.i2d jb) (FP.ddiv (FP.i2d j0) (FP.l2d (own_nz jc))))) (FP.l2d (own_nz ja))) (FP.ddiv (FP.dsub (FP.i2d j1) (FP.dmul (FP.i2d jb) (FP.ddiv (FP.i2d j0) (FP.l2d (own_nz jc))))) (FP.l2d (own_nz ja)))) .l))])) _
      exact kt
    have K178 : ∀ t, Steps p.tables e below (T164.setTop (mkF m 252 #[.val (.int fl), .val (.int ja), .val (.int jb), .val (.int jc), .val (.int j0), .val (.int j1), .val (.int (1 : Int32)), .val (.int (0 : Int32)), .val (.int (0 : Int32)), .val (.int (1 : Int32)), .val (.double (FP.l2d (own_nz ja))), .second, .val (.double (FP.i2d jb)), .second, .val (.double (FP.l2d (own_nz jc))), .second, .val (.ref b15), .val (.ref b19), .val (.ref b34), .val (.ref b50), .val (.ref b64), .val (.ref b79), .val (.int (0 : Int32)), .val (.int (1 : Int32)), .val (.ref r164), .val (.double (FP.ddiv (FP.i2d j0) (FP.l2d (own_nz jc)))), .second, .val (.double (FP.ddiv (FP.dsub (FP.i2d j1) (FP.dmul (FP.i2d jb) (FP.ddiv (FP.i2d j0) (FP.l2d (own_nz jc))))) (FP.l2d (own_nz ja)))), .second] [(.int (1 : Int32))])) t → Steps p.tables e below G0 t := by
      intro t kt
      refine K177 t ?_
      refine XS.ifNo X164.here hx rfl (hb hby at_244) rfl ((if0 _ _).trans (teq (dcmpV_self (own_n4 j1 jb j0 _ _ hD hA) .l)).2) ?_
      show Steps p.tables e below (T164.setTop (mkF m 247 #[.val (.int fl), .val (.int ja), .val (.int jb), .val (.int jc), .val (.int j0), .val (.int j1), .val (.int (1 : Int32)), .val (.int (0 : Int32)), .val (.int (0 : Int32)), .val (.int (1 : Int32)), .val (.double (FP.l2d (own_nz ja))), .second, .val (.double (FP.i2d jb)), .second, .val (.double (FP.l2d (own_nz jc))), .second, .val (.ref b15), .val (.ref b19), .val (.ref b34), .val (.ref b50), .val (.ref b64), .val (.ref b79), .val (.int (0 : Int32)), .val (.int (1 : Int32)), .val (.ref r164), .val (.double (FP.ddiv (FP.i2d j0) (FP.l2d (own_nz jc)))), .second, .val (.double (FP.ddiv (FP.dsub (FP.i2d j1) (FP.dmul (FP.i2d jb) (FP.ddiv (FP.i2d j0) (FP.l2d (own_nz jc))))) (FP.l2d (own_nz ja)))), .second] [])) _
      refine XS.iconst X164.here hx rfl (hb hby at_247) ?_
      show Steps p.tables e below (T164.setTop (mkF m 248 #[.val (.int fl), .val (.int ja), .val (.int jb), .val (.int jc), .val (.int j0), .val (.int j1), .val (.int (1 : Int32)), .val (.int (0 : Int32)), .val (.int (0 : Int32)), .val (.int (1 : Int32)), .val (.double (FP.l2d (own_nz ja))), .second, .val (.double (FP.i2d jb)), .second, .val (.double (FP.l2d (own_nz jc))), .second, .val (.ref b15), .val (.ref b19), .val (.ref b34), .val (.ref b50), .val (.ref b64), .val (.ref b79), .val (.int (0 : Int32)), .val (.int (1 : Int32)), .val (.ref r164), .val (.double (FP.ddiv (FP.i2d j0) (FP.l2d (own_nz jc)))), .second, .val (.double (FP.ddiv (FP.dsub (FP.i2d j1) (FP.dmul (FP.i2d jb) (FP.ddiv (FP.i2d j0) (FP.l2d (own_nz jc))))) (FP.l2d (own_nz ja)))), .second] [(.int (1 : Int32))])) _
      refine XS.goto X164.here hx rfl (pc0 := 248) (pc' := 252) rfl (hb hby at_248) (by decide) (by decide) ?_
      show Steps p.tables e below (T164.setTop (mkF m 252 #[.val (.int fl), .val (.int ja), .val (.int jb), .val (.int jc), .val (.int j0), .val (.int j1), .val (.int (1 : Int32)), .val (.int (0 : Int32)), .val (.int (0 : Int32)), .val (.int (1 : Int32)), .val (.double (FP.l2d (own_nz ja))), .second, .val (.double (FP.i2d jb)), .second, .val (.double (FP.l2d (own_nz jc))), .second, .val (.ref b15), .val (.ref b19), .val (.ref b34), .val (.ref b50), .val (.ref b64), .val (.ref b79), .val (.int (0 : Int32)), .val (.int (1 : Int32)), .val (.ref r164), .val (.double (FP.ddiv (FP.i2d j0) (FP.l2d (own_nz jc)))), .second, .val (.double (FP.ddiv (FP.dsub (FP.i2d j1) (FP.dmul (FP.i2d jb) (FP.ddiv (FP.i2d j0) (FP.l2d (own_nz jc))))) (FP.l2d (own_nz ja)))), .second] [(.int (1 : Int32))])) _
      exact kt
    obtain ⟨fs, hr, hrun, hended, hW, hsame⟩ := X164.leave (v := some (.int (1 : Int32))) (fun h => by rw [Bd.returns] at h; cases h)
    refine ⟨_, _, ?_, hrun, hended, _, _, rfl, ?_, ⟨_, rfl⟩, hW, hsame.mono (by decide) (by decide)⟩
    · rw [← hG0]
      refine K178 _ ?_
      exact retN X164 hx (t := .boolean) Bd.returns (by simp) (hb hby at_252) hr
    · show Q0 Z fl ja jb jc j0 j1 h0 n0 _ T164.heap _
      exact ⟨rfl, N164⟩
  ·
    have FAx179 : own_Fac Z T113.heap b15 rb17 ml17 ln17 pe17 pu17 pc17 kr17 km17 kl17 ke17 ku17 kc17 (2 : Int32) (2 : Int32) (0 : Int64) [.null, .null] [.null, .null] [(.int (0 : Int32)), (.int (0 : Int32))] [(.int (1 : Int32)), (.int (0 : Int32))] [(.ref b19), (.ref b50)] [(.ref b34), (.ref b64)] := ⟨fc113_0, fc113_1, fc113_2, fc113_3, fc113_4, fc113_5, fc113_6, fc113_7, fc113_8, fc113_9, fc113_10, fc113_11, fc113_12, fc113_13, fc113_14, fc113_15⟩
    obtain ⟨cq180, kq180, q180a, q180b, q180c⟩ := isOf hZ e116 fc113_0
    obtain ⟨_, _, ⟨T181, L181, k181, n181⟩, -, X181, ⟨Lc181, hQ181, l181, y181, z181⟩, st181⟩ := X116.virtualBack hx (y := (⟨"com/example/sondage/sondage/inference/Factorization", "solve", "([D)[D"⟩ : MethodName)) (z := (⟨"com/example/sondage/sondage/inference/Factorization", "solve", "([D)[D"⟩ : MethodName)) hown (mvT hZ (hw _ (List.mem_of_getElem? (i := 52) rfl))) (mvT hZ (hw _ (List.mem_of_getElem? (i := 53) rfl))) (notFace_of_selects (args := #[]) (mvT hZ (hw _ (List.mem_of_getElem? (i := 55) rfl)))) (mvT hZ (hw _ (List.mem_of_getElem? (i := 55) rfl))) (mvT hZ (hw _ (List.mem_of_getElem? (i := 54) rfl))) (by decide) (backOf (W := 0) (rm6_11 l Z aa hw [] (b15) (b79) rb17 ml17 ln17 pe17 pu17 pc17 b19 b50 b34 b64 kr17 km17 kl17 ke17 ku17 kc17 _ _ _ _ _ (0 : Int64) [.null, .null] [.null, .null] (FP.i2d j0) (FP.i2d j1) (FP.l2d (own_nz ja)) (FP.i2d jb) (FP.l2d (own_nz jc)) T113.heap n0 Z113 FAx179 f126 f118 f122 f120 f124 (own_n1 j0 _ hD) (own_n2 jb j0 _ hD) (own_n3 j1 jb j0 _ hD) (own_n4 j1 jb j0 _ _ hD hA)) hZ (hw _ (List.mem_of_getElem? (i := 56) rfl)) (hw _ (List.mem_of_getElem? (i := 2) rfl)) (by decide) (by decide)) q180a q180c (g := (mkF m 187 #[.val (.int fl), .val (.int ja), .val (.int jb), .val (.int jc), .val (.int j0), .val (.int j1), .val (.int (1 : Int32)), .val (.int (0 : Int32)), .val (.int (1 : Int32)), .val (.int (0 : Int32)), .val (.double (FP.l2d (own_nz ja))), .second, .val (.double (FP.i2d jb)), .second, .val (.double (FP.l2d (own_nz jc))), .second, .val (.ref b15), .val (.ref b19), .val (.ref b34), .val (.ref b50), .val (.ref b64), .val (.ref b79), .val (.int (0 : Int32)), .val (.int (1 : Int32)), .unset, .unset, .unset, .unset, .unset] [(.ref b79), (.ref b15)])) rfl (by rw [hml]; rfl) (Steps.refl _) (argsL := [(.ref b79)]) (rest := []) (lenOf pd_P_DQ_D rfl) rfl (by show 2 * 0 + _ ≤ _; exact Nat.le_of_eq rfl) (hb hby at_187) (fun _ _ => ⟨rfl, e116, (by decide : 13 + 2 ≤ _), (by decide : 32 + 4 ≤ _)⟩)
    dsimp only [Pt.U, Pt.locs, Pt.cells, Pt.slots] at X181 l181 y181 z181 st181 hQ181
    subst l181 y181 z181
    obtain ⟨r181, kx181, rfl, N181q, KV181, VX181⟩ := hQ181
    have N181 := Fr.app N116 N181q
    have K181 : ∀ t, Steps p.tables e below (T181.setTop (mkF m 190 #[.val (.int fl), .val (.int ja), .val (.int jb), .val (.int jc), .val (.int j0), .val (.int j1), .val (.int (1 : Int32)), .val (.int (0 : Int32)), .val (.int (1 : Int32)), .val (.int (0 : Int32)), .val (.double (FP.l2d (own_nz ja))), .second, .val (.double (FP.i2d jb)), .second, .val (.double (FP.l2d (own_nz jc))), .second, .val (.ref b15), .val (.ref b19), .val (.ref b34), .val (.ref b50), .val (.ref b64), .val (.ref b79), .val (.int (0 : Int32)), .val (.int (1 : Int32)), .unset, .unset, .unset, .unset, .unset] [(.ref r181)])) t → Steps p.tables e below G0 t := fun t kt => K117 t (st181.trans kt)
    have Z181 : n0 ≤ T181.heap.size := Nat.le_trans Z113 KV181.1
    have K182 : ∀ t, Steps p.tables e below (T181.setTop (mkF m 196 #[.val (.int fl), .val (.int ja), .val (.int jb), .val (.int jc), .val (.int j0), .val (.int j1), .val (.int (1 : Int32)), .val (.int (0 : Int32)), .val (.int (1 : Int32)), .val (.int (0 : Int32)), .val (.double (FP.l2d (own_nz ja))), .second, .val (.double (FP.i2d jb)), .second, .val (.double (FP.l2d (own_nz jc))), .second, .val (.ref b15), .val (.ref b19), .val (.ref b34), .val (.ref b50), .val (.ref b64), .val (.ref b79), .val (.int (0 : Int32)), .val (.int (1 : Int32)), .val (.ref r181), .unset, .unset, .unset, .unset] [(.int (0 : Int32)), (.ref b79)])) t → Steps p.tables e below G0 t := by
      intro t kt
      refine K181 t ?_
      refine XS.astore X181.here hx rfl (hb hby at_190) rfl rfl (l' := #[.val (.int fl), .val (.int ja), .val (.int jb), .val (.int jc), .val (.int j0), .val (.int j1), .val (.int (1 : Int32)), .val (.int (0 : Int32)), .val (.int (1 : Int32)), .val (.int (0 : Int32)), .val (.double (FP.l2d (own_nz ja))), .second, .val (.double (FP.i2d jb)), .second, .val (.double (FP.l2d (own_nz jc))), .second, .val (.ref b15), .val (.ref b19), .val (.ref b34), .val (.ref b50), .val (.ref b64), .val (.ref b79), .val (.int (0 : Int32)), .val (.int (1 : Int32)), .val (.ref r181), .unset, .unset, .unset, .unset]) rfl ?_
      show Steps p.tables e below (T181.setTop (mkF m 192 #[.val (.int fl), .val (.int ja), .val (.int jb), .val (.int jc), .val (.int j0), .val (.int j1), .val (.int (1 : Int32)), .val (.int (0 : Int32)), .val (.int (1 : Int32)), .val (.int (0 : Int32)), .val (.double (FP.l2d (own_nz ja))), .second, .val (.double (FP.i2d jb)), .second, .val (.double (FP.l2d (own_nz jc))), .second, .val (.ref b15), .val (.ref b19), .val (.ref b34), .val (.ref b50), .val (.ref b64), .val (.ref b79), .val (.int (0 : Int32)), .val (.int (1 : Int32)), .val (.ref r181), .unset, .unset, .unset, .unset] [])) _
      refine XS.aload X181.here hx rfl (hb hby at_192) rfl rfl ?_
      show Steps p.tables e below (T181.setTop (mkF m 194 #[.val (.int fl), .val (.int ja), .val (.int jb), .val (.int jc), .val (.int j0), .val (.int j1), .val (.int (1 : Int32)), .val (.int (0 : Int32)), .val (.int (1 : Int32)), .val (.int (0 : Int32)), .val (.double (FP.l2d (own_nz ja))), .second, .val (.double (FP.i2d jb)), .second, .val (.double (FP.l2d (own_nz jc))), .second, .val (.ref b15), .val (.ref b19), .val (.ref b34), .val (.ref b50), .val (.ref b64), .val (.ref b79), .val (.int (0 : Int32)), .val (.int (1 : Int32)), .val (.ref r181), .unset, .unset, .unset, .unset] [(.ref b79)])) _
      refine XS.iload X181.here hx rfl (hb hby at_194) rfl ?_
      show Steps p.tables e below (T181.setTop (mkF m 196 #[.val (.int fl), .val (.int ja), .val (.int jb), .val (.int jc), .val (.int j0), .val (.int j1), .val (.int (1 : Int32)), .val (.int (0 : Int32)), .val (.int (1 : Int32)), .val (.int (0 : Int32)), .val (.double (FP.l2d (own_nz ja))), .second, .val (.double (FP.i2d jb)), .second, .val (.double (FP.l2d (own_nz jc))), .second, .val (.ref b15), .val (.ref b19), .val (.ref b34), .val (.ref b50), .val (.ref b64), .val (.ref b79), .val (.int (0 : Int32)), .val (.int (1 : Int32)), .val (.ref r181), .unset, .unset, .unset, .unset] [(.int (0 : Int32)), (.ref b79)])) _
      exact kt
    have f183 := (f126.keep KV181 (fun q => nomatch q))
    obtain ⟨cl184, Ar184, qq184, S184, M184, H184, GG184⟩ := id f183
    have hin184 : ¬ ((0 : Int32) < 0 ∨ cl184.slots.size ≤ ((0 : Int32)).toNatClampNeg) := inb_of S184 ⟨by decide, by decide⟩
    have hat184 : cl184.slots[((0 : Int32)).toNatClampNeg]? = some (.double (FP.i2d j0)) := Has.at H184 hin184 rfl
    have K185 : ∀ t, Steps p.tables e below (T181.setTop (mkF m 206 #[.val (.int fl), .val (.int ja), .val (.int jb), .val (.int jc), .val (.int j0), .val (.int j1), .val (.int (1 : Int32)), .val (.int (0 : Int32)), .val (.int (1 : Int32)), .val (.int (0 : Int32)), .val (.double (FP.l2d (own_nz ja))), .second, .val (.double (FP.i2d jb)), .second, .val (.double (FP.l2d (own_nz jc))), .second, .val (.ref b15), .val (.ref b19), .val (.ref b34), .val (.ref b50), .val (.ref b64), .val (.ref b79), .val (.int (0 : Int32)), .val (.int (1 : Int32)), .val (.ref r181), .val (.double (FP.ddiv (FP.i2d j0) (FP.l2d (own_nz jc)))), .second, .unset, .unset] [(.int (1 : Int32)), (.ref b79)])) t → Steps p.tables e below G0 t := by
      intro t kt
      refine K182 t ?_
      refine X181.daload hx (j := (0 : Int32)) (v := (.double (FP.i2d j0))) (by rw [(rfl : T181.heap = _)]; exact (Ar184).1) (State.isArrayOf_alike hZ.alike (Ar184).2.1) (Ar184).2.2 hin184 hat184 (g := (mkF m 196 #[.val (.int fl), .val (.int ja), .val (.int jb), .val (.int jc), .val (.int j0), .val (.int j1), .val (.int (1 : Int32)), .val (.int (0 : Int32)), .val (.int (1 : Int32)), .val (.int (0 : Int32)), .val (.double (FP.l2d (own_nz ja))), .second, .val (.double (FP.i2d jb)), .second, .val (.double (FP.l2d (own_nz jc))), .second, .val (.ref b15), .val (.ref b19), .val (.ref b34), .val (.ref b50), .val (.ref b64), .val (.ref b79), .val (.int (0 : Int32)), .val (.int (1 : Int32)), .val (.ref r181), .unset, .unset, .unset, .unset] [(.int (0 : Int32)), (.ref b79)])) rfl rfl (hb hby at_196) _ ?_
      show Steps p.tables e below (T181.setTop (mkF m 197 #[.val (.int fl), .val (.int ja), .val (.int jb), .val (.int jc), .val (.int j0), .val (.int j1), .val (.int (1 : Int32)), .val (.int (0 : Int32)), .val (.int (1 : Int32)), .val (.int (0 : Int32)), .val (.double (FP.l2d (own_nz ja))), .second, .val (.double (FP.i2d jb)), .second, .val (.double (FP.l2d (own_nz jc))), .second, .val (.ref b15), .val (.ref b19), .val (.ref b34), .val (.ref b50), .val (.ref b64), .val (.ref b79), .val (.int (0 : Int32)), .val (.int (1 : Int32)), .val (.ref r181), .unset, .unset, .unset, .unset] [(.double (FP.i2d j0))])) _
      refine XS.dload X181.here hx rfl (hb hby at_197) rfl ?_
      show Steps p.tables e below (T181.setTop (mkF m 199 #[.val (.int fl), .val (.int ja), .val (.int jb), .val (.int jc), .val (.int j0), .val (.int j1), .val (.int (1 : Int32)), .val (.int (0 : Int32)), .val (.int (1 : Int32)), .val (.int (0 : Int32)), .val (.double (FP.l2d (own_nz ja))), .second, .val (.double (FP.i2d jb)), .second, .val (.double (FP.l2d (own_nz jc))), .second, .val (.ref b15), .val (.ref b19), .val (.ref b34), .val (.ref b50), .val (.ref b64), .val (.ref b79), .val (.int (0 : Int32)), .val (.int (1 : Int32)), .val (.ref r181), .unset, .unset, .unset, .unset] [(.double (FP.l2d (own_nz jc))), (.double (FP.i2d j0))])) _
      refine XS.ddivS X181.here hx rfl (hb hby at_199) rfl (own_n1 j0 _ hD) rfl ?_
      show Steps p.tables e below (T181.setTop (mkF m 200 #[.val (.int fl), .val (.int ja), .val (.int jb), .val (.int jc), .val (.int j0), .val (.int j1), .val (.int (1 : Int32)), .val (.int (0 : Int32)), .val (.int (1 : Int32)), .val (.int (0 : Int32)), .val (.double (FP.l2d (own_nz ja))), .second, .val (.double (FP.i2d jb)), .second, .val (.double (FP.l2d (own_nz jc))), .second, .val (.ref b15), .val (.ref b19), .val (.ref b34), .val (.ref b50), .val (.ref b64), .val (.ref b79), .val (.int (0 : Int32)), .val (.int (1 : Int32)), .val (.ref r181), .unset, .unset, .unset, .unset] [(.double (FP.ddiv (FP.i2d j0) (FP.l2d (own_nz jc))))])) _
      refine XS.dstore X181.here hx rfl (hb hby at_200) rfl (l' := #[.val (.int fl), .val (.int ja), .val (.int jb), .val (.int jc), .val (.int j0), .val (.int j1), .val (.int (1 : Int32)), .val (.int (0 : Int32)), .val (.int (1 : Int32)), .val (.int (0 : Int32)), .val (.double (FP.l2d (own_nz ja))), .second, .val (.double (FP.i2d jb)), .second, .val (.double (FP.l2d (own_nz jc))), .second, .val (.ref b15), .val (.ref b19), .val (.ref b34), .val (.ref b50), .val (.ref b64), .val (.ref b79), .val (.int (0 : Int32)), .val (.int (1 : Int32)), .val (.ref r181), .val (.double (FP.ddiv (FP.i2d j0) (FP.l2d (own_nz jc)))), .second, .unset, .unset]) rfl ?_
      show Steps p.tables e below (T181.setTop (mkF m 202 #[.val (.int fl), .val (.int ja), .val (.int jb), .val (.int jc), .val (.int j0), .val (.int j1), .val (.int (1 : Int32)), .val (.int (0 : Int32)), .val (.int (1 : Int32)), .val (.int (0 : Int32)), .val (.double (FP.l2d (own_nz ja))), .second, .val (.double (FP.i2d jb)), .second, .val (.double (FP.l2d (own_nz jc))), .second, .val (.ref b15), .val (.ref b19), .val (.ref b34), .val (.ref b50), .val (.ref b64), .val (.ref b79), .val (.int (0 : Int32)), .val (.int (1 : Int32)), .val (.ref r181), .val (.double (FP.ddiv (FP.i2d j0) (FP.l2d (own_nz jc)))), .second, .unset, .unset] [])) _
      refine XS.aload X181.here hx rfl (hb hby at_202) rfl rfl ?_
      show Steps p.tables e below (T181.setTop (mkF m 204 #[.val (.int fl), .val (.int ja), .val (.int jb), .val (.int jc), .val (.int j0), .val (.int j1), .val (.int (1 : Int32)), .val (.int (0 : Int32)), .val (.int (1 : Int32)), .val (.int (0 : Int32)), .val (.double (FP.l2d (own_nz ja))), .second, .val (.double (FP.i2d jb)), .second, .val (.double (FP.l2d (own_nz jc))), .second, .val (.ref b15), .val (.ref b19), .val (.ref b34), .val (.ref b50), .val (.ref b64), .val (.ref b79), .val (.int (0 : Int32)), .val (.int (1 : Int32)), .val (.ref r181), .val (.double (FP.ddiv (FP.i2d j0) (FP.l2d (own_nz jc)))), .second, .unset, .unset] [(.ref b79)])) _
      refine XS.iload X181.here hx rfl (hb hby at_204) rfl ?_
      show Steps p.tables e below (T181.setTop (mkF m 206 #[.val (.int fl), .val (.int ja), .val (.int jb), .val (.int jc), .val (.int j0), .val (.int j1), .val (.int (1 : Int32)), .val (.int (0 : Int32)), .val (.int (1 : Int32)), .val (.int (0 : Int32)), .val (.double (FP.l2d (own_nz ja))), .second, .val (.double (FP.i2d jb)), .second, .val (.double (FP.l2d (own_nz jc))), .second, .val (.ref b15), .val (.ref b19), .val (.ref b34), .val (.ref b50), .val (.ref b64), .val (.ref b79), .val (.int (0 : Int32)), .val (.int (1 : Int32)), .val (.ref r181), .val (.double (FP.ddiv (FP.i2d j0) (FP.l2d (own_nz jc)))), .second, .unset, .unset] [(.int (1 : Int32)), (.ref b79)])) _
      exact kt
    obtain ⟨cl186, Ar186, qq186, S186, M186, H186, GG186⟩ := id f183
    have hin186 : ¬ ((1 : Int32) < 0 ∨ cl186.slots.size ≤ ((1 : Int32)).toNatClampNeg) := inb_of S186 ⟨by decide, by decide⟩
    have hat186 : cl186.slots[((1 : Int32)).toNatClampNeg]? = some (.double (FP.i2d j1)) := Has.at H186 hin186 rfl
    have K187 : ∀ t, Steps p.tables e below (T181.setTop (mkF m 220 #[.val (.int fl), .val (.int ja), .val (.int jb), .val (.int jc), .val (.int j0), .val (.int j1), .val (.int (1 : Int32)), .val (.int (0 : Int32)), .val (.int (1 : Int32)), .val (.int (0 : Int32)), .val (.double (FP.l2d (own_nz ja))), .second, .val (.double (FP.i2d jb)), .second, .val (.double (FP.l2d (own_nz jc))), .second, .val (.ref b15), .val (.ref b19), .val (.ref b34), .val (.ref b50), .val (.ref b64), .val (.ref b79), .val (.int (0 : Int32)), .val (.int (1 : Int32)), .val (.ref r181), .val (.double (FP.ddiv (FP.i2d j0) (FP.l2d (own_nz jc)))), .second, .val (.double (FP.ddiv (FP.dsub (FP.i2d j1) (FP.dmul (FP.i2d jb) (FP.ddiv (FP.i2d j0) (FP.l2d (own_nz jc))))) (FP.l2d (own_nz ja)))), .second] [(.ref r181)])) t → Steps p.tables e below G0 t := by
      intro t kt
      refine K185 t ?_
      refine X181.daload hx (j := (1 : Int32)) (v := (.double (FP.i2d j1))) (by rw [(rfl : T181.heap = _)]; exact (Ar186).1) (State.isArrayOf_alike hZ.alike (Ar186).2.1) (Ar186).2.2 hin186 hat186 (g := (mkF m 206 #[.val (.int fl), .val (.int ja), .val (.int jb), .val (.int jc), .val (.int j0), .val (.int j1), .val (.int (1 : Int32)), .val (.int (0 : Int32)), .val (.int (1 : Int32)), .val (.int (0 : Int32)), .val (.double (FP.l2d (own_nz ja))), .second, .val (.double (FP.i2d jb)), .second, .val (.double (FP.l2d (own_nz jc))), .second, .val (.ref b15), .val (.ref b19), .val (.ref b34), .val (.ref b50), .val (.ref b64), .val (.ref b79), .val (.int (0 : Int32)), .val (.int (1 : Int32)), .val (.ref r181), .val (.double (FP.ddiv (FP.i2d j0) (FP.l2d (own_nz jc)))), .second, .unset, .unset] [(.int (1 : Int32)), (.ref b79)])) rfl rfl (hb hby at_206) _ ?_
      show Steps p.tables e below (T181.setTop (mkF m 207 #[.val (.int fl), .val (.int ja), .val (.int jb), .val (.int jc), .val (.int j0), .val (.int j1), .val (.int (1 : Int32)), .val (.int (0 : Int32)), .val (.int (1 : Int32)), .val (.int (0 : Int32)), .val (.double (FP.l2d (own_nz ja))), .second, .val (.double (FP.i2d jb)), .second, .val (.double (FP.l2d (own_nz jc))), .second, .val (.ref b15), .val (.ref b19), .val (.ref b34), .val (.ref b50), .val (.ref b64), .val (.ref b79), .val (.int (0 : Int32)), .val (.int (1 : Int32)), .val (.ref r181), .val (.double (FP.ddiv (FP.i2d j0) (FP.l2d (own_nz jc)))), .second, .unset, .unset] [(.double (FP.i2d j1))])) _
      refine XS.dload X181.here hx rfl (hb hby at_207) rfl ?_
      show Steps p.tables e below (T181.setTop (mkF m 209 #[.val (.int fl), .val (.int ja), .val (.int jb), .val (.int jc), .val (.int j0), .val (.int j1), .val (.int (1 : Int32)), .val (.int (0 : Int32)), .val (.int (1 : Int32)), .val (.int (0 : Int32)), .val (.double (FP.l2d (own_nz ja))), .second, .val (.double (FP.i2d jb)), .second, .val (.double (FP.l2d (own_nz jc))), .second, .val (.ref b15), .val (.ref b19), .val (.ref b34), .val (.ref b50), .val (.ref b64), .val (.ref b79), .val (.int (0 : Int32)), .val (.int (1 : Int32)), .val (.ref r181), .val (.double (FP.ddiv (FP.i2d j0) (FP.l2d (own_nz jc)))), .second, .unset, .unset] [(.double (FP.i2d jb)), (.double (FP.i2d j1))])) _
      refine XS.dload X181.here hx rfl (hb hby at_209) rfl ?_
      show Steps p.tables e below (T181.setTop (mkF m 211 #[.val (.int fl), .val (.int ja), .val (.int jb), .val (.int jc), .val (.int j0), .val (.int j1), .val (.int (1 : Int32)), .val (.int (0 : Int32)), .val (.int (1 : Int32)), .val (.int (0 : Int32)), .val (.double (FP.l2d (own_nz ja))), .second, .val (.double (FP.i2d jb)), .second, .val (.double (FP.l2d (own_nz jc))), .second, .val (.ref b15), .val (.ref b19), .val (.ref b34), .val (.ref b50), .val (.ref b64), .val (.ref b79), .val (.int (0 : Int32)), .val (.int (1 : Int32)), .val (.ref r181), .val (.double (FP.ddiv (FP.i2d j0) (FP.l2d (own_nz jc)))), .second, .unset, .unset] [(.double (FP.ddiv (FP.i2d j0) (FP.l2d (own_nz jc)))), (.double (FP.i2d jb)), (.double (FP.i2d j1))])) _
      refine XS.dmulS X181.here hx rfl (hb hby at_211) rfl (own_n2 jb j0 _ hD) rfl ?_
      show Steps p.tables e below (T181.setTop (mkF m 212 #[.val (.int fl), .val (.int ja), .val (.int jb), .val (.int jc), .val (.int j0), .val (.int j1), .val (.int (1 : Int32)), .val (.int (0 : Int32)), .val (.int (1 : Int32)), .val (.int (0 : Int32)), .val (.double (FP.l2d (own_nz ja))), .second, .val (.double (FP.i2d jb)), .second, .val (.double (FP.l2d (own_nz jc))), .second, .val (.ref b15), .val (.ref b19), .val (.ref b34), .val (.ref b50), .val (.ref b64), .val (.ref b79), .val (.int (0 : Int32)), .val (.int (1 : Int32)), .val (.ref r181), .val (.double (FP.ddiv (FP.i2d j0) (FP.l2d (own_nz jc)))), .second, .unset, .unset] [(.double (FP.dmul (FP.i2d jb) (FP.ddiv (FP.i2d j0) (FP.l2d (own_nz jc))))), (.double (FP.i2d j1))])) _
      refine XS.dsubS X181.here hx rfl (hb hby at_212) rfl (own_n3 j1 jb j0 _ hD) rfl ?_
      show Steps p.tables e below (T181.setTop (mkF m 213 #[.val (.int fl), .val (.int ja), .val (.int jb), .val (.int jc), .val (.int j0), .val (.int j1), .val (.int (1 : Int32)), .val (.int (0 : Int32)), .val (.int (1 : Int32)), .val (.int (0 : Int32)), .val (.double (FP.l2d (own_nz ja))), .second, .val (.double (FP.i2d jb)), .second, .val (.double (FP.l2d (own_nz jc))), .second, .val (.ref b15), .val (.ref b19), .val (.ref b34), .val (.ref b50), .val (.ref b64), .val (.ref b79), .val (.int (0 : Int32)), .val (.int (1 : Int32)), .val (.ref r181), .val (.double (FP.ddiv (FP.i2d j0) (FP.l2d (own_nz jc)))), .second, .unset, .unset] [(.double (FP.dsub (FP.i2d j1) (FP.dmul (FP.i2d jb) (FP.ddiv (FP.i2d j0) (FP.l2d (own_nz jc))))))])) _
      refine XS.dload X181.here hx rfl (hb hby at_213) rfl ?_
      show Steps p.tables e below (T181.setTop (mkF m 215 #[.val (.int fl), .val (.int ja), .val (.int jb), .val (.int jc), .val (.int j0), .val (.int j1), .val (.int (1 : Int32)), .val (.int (0 : Int32)), .val (.int (1 : Int32)), .val (.int (0 : Int32)), .val (.double (FP.l2d (own_nz ja))), .second, .val (.double (FP.i2d jb)), .second, .val (.double (FP.l2d (own_nz jc))), .second, .val (.ref b15), .val (.ref b19), .val (.ref b34), .val (.ref b50), .val (.ref b64), .val (.ref b79), .val (.int (0 : Int32)), .val (.int (1 : Int32)), .val (.ref r181), .val (.double (FP.ddiv (FP.i2d j0) (FP.l2d (own_nz jc)))), .second, .unset, .unset] [(.double (FP.l2d (own_nz ja))), (.double (FP.dsub (FP.i2d j1) (FP.dmul (FP.i2d jb) (FP.ddiv (FP.i2d j0) (FP.l2d (own_nz jc))))))])) _
      refine XS.ddivS X181.here hx rfl (hb hby at_215) rfl (own_n4 j1 jb j0 _ _ hD hA) rfl ?_
      show Steps p.tables e below (T181.setTop (mkF m 216 #[.val (.int fl), .val (.int ja), .val (.int jb), .val (.int jc), .val (.int j0), .val (.int j1), .val (.int (1 : Int32)), .val (.int (0 : Int32)), .val (.int (1 : Int32)), .val (.int (0 : Int32)), .val (.double (FP.l2d (own_nz ja))), .second, .val (.double (FP.i2d jb)), .second, .val (.double (FP.l2d (own_nz jc))), .second, .val (.ref b15), .val (.ref b19), .val (.ref b34), .val (.ref b50), .val (.ref b64), .val (.ref b79), .val (.int (0 : Int32)), .val (.int (1 : Int32)), .val (.ref r181), .val (.double (FP.ddiv (FP.i2d j0) (FP.l2d (own_nz jc)))), .second, .unset, .unset] [(.double (FP.ddiv (FP.dsub (FP.i2d j1) (FP.dmul (FP.i2d jb) (FP.ddiv (FP.i2d j0) (FP.l2d (own_nz jc))))) (FP.l2d (own_nz ja))))])) _
      refine XS.dstore X181.here hx rfl (hb hby at_216) rfl (l' := #[.val (.int fl), .val (.int ja), .val (.int jb), .val (.int jc), .val (.int j0), .val (.int j1), .val (.int (1 : Int32)), .val (.int (0 : Int32)), .val (.int (1 : Int32)), .val (.int (0 : Int32)), .val (.double (FP.l2d (own_nz ja))), .second, .val (.double (FP.i2d jb)), .second, .val (.double (FP.l2d (own_nz jc))), .second, .val (.ref b15), .val (.ref b19), .val (.ref b34), .val (.ref b50), .val (.ref b64), .val (.ref b79), .val (.int (0 : Int32)), .val (.int (1 : Int32)), .val (.ref r181), .val (.double (FP.ddiv (FP.i2d j0) (FP.l2d (own_nz jc)))), .second, .val (.double (FP.ddiv (FP.dsub (FP.i2d j1) (FP.dmul (FP.i2d jb) (FP.ddiv (FP.i2d j0) (FP.l2d (own_nz jc))))) (FP.l2d (own_nz ja)))), .second]) rfl ?_
      show Steps p.tables e below (T181.setTop (mkF m 218 #[.val (.int fl), .val (.int ja), .val (.int jb), .val (.int jc), .val (.int j0), .val (.int j1), .val (.int (1 : Int32)), .val (.int (0 : Int32)), .val (.int (1 : Int32)), .val (.int (0 : Int32)), .val (.double (FP.l2d (own_nz ja))), .second, .val (.double (FP.i2d jb)), .second, .val (.double (FP.l2d (own_nz jc))), .second, .val (.ref b15), .val (.ref b19), .val (.ref b34), .val (.ref b50), .val (.ref b64), .val (.ref b79), .val (.int (0 : Int32)), .val (.int (1 : Int32)), .val (.ref r181), .val (.double (FP.ddiv (FP.i2d j0) (FP.l2d (own_nz jc)))), .second, .val (.double (FP.ddiv (FP.dsub (FP.i2d j1) (FP.dmul (FP.i2d jb) (FP.ddiv (FP.i2d j0) (FP.l2d (own_nz jc))))) (FP.l2d (own_nz ja)))), .second] [])) _
      refine XS.aload X181.here hx rfl (hb hby at_218) rfl rfl ?_
      show Steps p.tables e below (T181.setTop (mkF m 220 #[.val (.int fl), .val (.int ja), .val (.int jb), .val (.int jc), .val (.int j0), .val (.int j1), .val (.int (1 : Int32)), .val (.int (0 : Int32)), .val (.int (1 : Int32)), .val (.int (0 : Int32)), .val (.double (FP.l2d (own_nz ja))), .second, .val (.double (FP.i2d jb)), .second, .val (.double (FP.l2d (own_nz jc))), .second, .val (.ref b15), .val (.ref b19), .val (.ref b34), .val (.ref b50), .val (.ref b64), .val (.ref b79), .val (.int (0 : Int32)), .val (.int (1 : Int32)), .val (.ref r181), .val (.double (FP.ddiv (FP.i2d j0) (FP.l2d (own_nz jc)))), .second, .val (.double (FP.ddiv (FP.dsub (FP.i2d j1) (FP.dmul (FP.i2d jb) (FP.ddiv (FP.i2d j0) (FP.l2d (own_nz jc))))) (FP.l2d (own_nz ja)))), .second] [(.ref r181)])) _
      exact kt
    obtain ⟨cl188, Ar188, qq188, S188, M188, H188, GG188⟩ := id VX181
    have K189 : ∀ t, Steps p.tables e below (T181.setTop (mkF m 229 #[.val (.int fl), .val (.int ja), .val (.int jb), .val (.int jc), .val (.int j0), .val (.int j1), .val (.int (1 : Int32)), .val (.int (0 : Int32)), .val (.int (1 : Int32)), .val (.int (0 : Int32)), .val (.double (FP.l2d (own_nz ja))), .second, .val (.double (FP.i2d jb)), .second, .val (.double (FP.l2d (own_nz jc))), .second, .val (.ref b15), .val (.ref b19), .val (.ref b34), .val (.ref b50), .val (.ref b64), .val (.ref b79), .val (.int (0 : Int32)), .val (.int (1 : Int32)), .val (.ref r181), .val (.double (FP.ddiv (FP.i2d j0) (FP.l2d (own_nz jc)))), .second, .val (.double (FP.ddiv (FP.dsub (FP.i2d j1) (FP.dmul (FP.i2d jb) (FP.ddiv (FP.i2d j0) (FP.l2d (own_nz jc))))) (FP.l2d (own_nz ja)))), .second] [(.int (0 : Int32)), (.ref r181)])) t → Steps p.tables e below G0 t := by
      intro t kt
      refine K187 t ?_
      refine X181.arraylength hx (by rw [(rfl : T181.heap = _)]; exact (Ar188).1) (State.isArrayOf_alike hZ.alike (Ar188).2.1) (g := (mkF m 220 #[.val (.int fl), .val (.int ja), .val (.int jb), .val (.int jc), .val (.int j0), .val (.int j1), .val (.int (1 : Int32)), .val (.int (0 : Int32)), .val (.int (1 : Int32)), .val (.int (0 : Int32)), .val (.double (FP.l2d (own_nz ja))), .second, .val (.double (FP.i2d jb)), .second, .val (.double (FP.l2d (own_nz jc))), .second, .val (.ref b15), .val (.ref b19), .val (.ref b34), .val (.ref b50), .val (.ref b64), .val (.ref b79), .val (.int (0 : Int32)), .val (.int (1 : Int32)), .val (.ref r181), .val (.double (FP.ddiv (FP.i2d j0) (FP.l2d (own_nz jc)))), .second, .val (.double (FP.ddiv (FP.dsub (FP.i2d j1) (FP.dmul (FP.i2d jb) (FP.ddiv (FP.i2d j0) (FP.l2d (own_nz jc))))) (FP.l2d (own_nz ja)))), .second] [(.ref r181)])) rfl rfl (hb hby at_220) _ ?_
      rw [len_of S188 M188]
      show Steps p.tables e below (T181.setTop (mkF m 221 #[.val (.int fl), .val (.int ja), .val (.int jb), .val (.int jc), .val (.int j0), .val (.int j1), .val (.int (1 : Int32)), .val (.int (0 : Int32)), .val (.int (1 : Int32)), .val (.int (0 : Int32)), .val (.double (FP.l2d (own_nz ja))), .second, .val (.double (FP.i2d jb)), .second, .val (.double (FP.l2d (own_nz jc))), .second, .val (.ref b15), .val (.ref b19), .val (.ref b34), .val (.ref b50), .val (.ref b64), .val (.ref b79), .val (.int (0 : Int32)), .val (.int (1 : Int32)), .val (.ref r181), .val (.double (FP.ddiv (FP.i2d j0) (FP.l2d (own_nz jc)))), .second, .val (.double (FP.ddiv (FP.dsub (FP.i2d j1) (FP.dmul (FP.i2d jb) (FP.ddiv (FP.i2d j0) (FP.l2d (own_nz jc))))) (FP.l2d (own_nz ja)))), .second] [(.int (2 : Int32))])) _
      refine XS.iconst X181.here hx rfl (hb hby at_221) ?_
      show Steps p.tables e below (T181.setTop (mkF m 222 #[.val (.int fl), .val (.int ja), .val (.int jb), .val (.int jc), .val (.int j0), .val (.int j1), .val (.int (1 : Int32)), .val (.int (0 : Int32)), .val (.int (1 : Int32)), .val (.int (0 : Int32)), .val (.double (FP.l2d (own_nz ja))), .second, .val (.double (FP.i2d jb)), .second, .val (.double (FP.l2d (own_nz jc))), .second, .val (.ref b15), .val (.ref b19), .val (.ref b34), .val (.ref b50), .val (.ref b64), .val (.ref b79), .val (.int (0 : Int32)), .val (.int (1 : Int32)), .val (.ref r181), .val (.double (FP.ddiv (FP.i2d j0) (FP.l2d (own_nz jc)))), .second, .val (.double (FP.ddiv (FP.dsub (FP.i2d j1) (FP.dmul (FP.i2d jb) (FP.ddiv (FP.i2d j0) (FP.l2d (own_nz jc))))) (FP.l2d (own_nz ja)))), .second] [(.int (2 : Int32)), (.int (2 : Int32))])) _
      refine XS.icmpNo X181.here hx rfl (hb hby at_222) rfl (teq (by decide)).2 ?_
      show Steps p.tables e below (T181.setTop (mkF m 225 #[.val (.int fl), .val (.int ja), .val (.int jb), .val (.int jc), .val (.int j0), .val (.int j1), .val (.int (1 : Int32)), .val (.int (0 : Int32)), .val (.int (1 : Int32)), .val (.int (0 : Int32)), .val (.double (FP.l2d (own_nz ja))), .second, .val (.double (FP.i2d jb)), .second, .val (.double (FP.l2d (own_nz jc))), .second, .val (.ref b15), .val (.ref b19), .val (.ref b34), .val (.ref b50), .val (.ref b64), .val (.ref b79), .val (.int (0 : Int32)), .val (.int (1 : Int32)), .val (.ref r181), .val (.double (FP.ddiv (FP.i2d j0) (FP.l2d (own_nz jc)))), .second, .val (.double (FP.ddiv (FP.dsub (FP.i2d j1) (FP.dmul (FP.i2d jb) (FP.ddiv (FP.i2d j0) (FP.l2d (own_nz jc))))) (FP.l2d (own_nz ja)))), .second] [])) _
      refine XS.aload X181.here hx rfl (hb hby at_225) rfl rfl ?_
      show Steps p.tables e below (T181.setTop (mkF m 227 #[.val (.int fl), .val (.int ja), .val (.int jb), .val (.int jc), .val (.int j0), .val (.int j1), .val (.int (1 : Int32)), .val (.int (0 : Int32)), .val (.int (1 : Int32)), .val (.int (0 : Int32)), .val (.double (FP.l2d (own_nz ja))), .second, .val (.double (FP.i2d jb)), .second, .val (.double (FP.l2d (own_nz jc))), .second, .val (.ref b15), .val (.ref b19), .val (.ref b34), .val (.ref b50), .val (.ref b64), .val (.ref b79), .val (.int (0 : Int32)), .val (.int (1 : Int32)), .val (.ref r181), .val (.double (FP.ddiv (FP.i2d j0) (FP.l2d (own_nz jc)))), .second, .val (.double (FP.ddiv (FP.dsub (FP.i2d j1) (FP.dmul (FP.i2d jb) (FP.ddiv (FP.i2d j0) (FP.l2d (own_nz jc))))) (FP.l2d (own_nz ja)))), .second] [(.ref r181)])) _
      refine XS.iload X181.here hx rfl (hb hby at_227) rfl ?_
      show Steps p.tables e below (T181.setTop (mkF m 229 #[.val (.int fl), .val (.int ja), .val (.int jb), .val (.int jc), .val (.int j0), .val (.int j1), .val (.int (1 : Int32)), .val (.int (0 : Int32)), .val (.int (1 : Int32)), .val (.int (0 : Int32)), .val (.double (FP.l2d (own_nz ja))), .second, .val (.double (FP.i2d jb)), .second, .val (.double (FP.l2d (own_nz jc))), .second, .val (.ref b15), .val (.ref b19), .val (.ref b34), .val (.ref b50), .val (.ref b64), .val (.ref b79), .val (.int (0 : Int32)), .val (.int (1 : Int32)), .val (.ref r181), .val (.double (FP.ddiv (FP.i2d j0) (FP.l2d (own_nz jc)))), .second, .val (.double (FP.ddiv (FP.dsub (FP.i2d j1) (FP.dmul (FP.i2d jb) (FP.ddiv (FP.i2d j0) (FP.l2d (own_nz jc))))) (FP.l2d (own_nz ja)))), .second] [(.int (0 : Int32)), (.ref r181)])) _
      exact kt
    obtain ⟨cl190, Ar190, qq190, S190, M190, H190, GG190⟩ := id VX181
    have hin190 : ¬ ((0 : Int32) < 0 ∨ cl190.slots.size ≤ ((0 : Int32)).toNatClampNeg) := inb_of S190 ⟨by decide, by decide⟩
    have hat190 : cl190.slots[((0 : Int32)).toNatClampNeg]? = some (.double (FP.ddiv (FP.i2d j0) (FP.l2d (own_nz jc)))) := Has.at H190 hin190 rfl
    have K191 : ∀ t, Steps p.tables e below (T181.setTop (mkF m 233 #[.val (.int fl), .val (.int ja), .val (.int jb), .val (.int jc), .val (.int j0), .val (.int j1), .val (.int (1 : Int32)), .val (.int (0 : Int32)), .val (.int (1 : Int32)), .val (.int (0 : Int32)), .val (.double (FP.l2d (own_nz ja))), .second, .val (.double (FP.i2d jb)), .second, .val (.double (FP.l2d (own_nz jc))), .second, .val (.ref b15), .val (.ref b19), .val (.ref b34), .val (.ref b50), .val (.ref b64), .val (.ref b79), .val (.int (0 : Int32)), .val (.int (1 : Int32)), .val (.ref r181), .val (.double (FP.ddiv (FP.i2d j0) (FP.l2d (own_nz jc)))), .second, .val (.double (FP.ddiv (FP.dsub (FP.i2d j1) (FP.dmul (FP.i2d jb) (FP.ddiv (FP.i2d j0) (FP.l2d (own_nz jc))))) (FP.l2d (own_nz ja)))), .second] [(.int (cmpValue (FP.dcmp (FP.ddiv (FP.i2d j0) (FP.l2d (own_nz jc))) (FP.ddiv (FP.i2d j0) (FP.l2d (own_nz jc)))) .l))])) t → Steps p.tables e below G0 t := by
      intro t kt
      refine K189 t ?_
      refine X181.daload hx (j := (0 : Int32)) (v := (.double (FP.ddiv (FP.i2d j0) (FP.l2d (own_nz jc))))) (by rw [(rfl : T181.heap = _)]; exact (Ar190).1) (State.isArrayOf_alike hZ.alike (Ar190).2.1) (Ar190).2.2 hin190 hat190 (g := (mkF m 229 #[.val (.int fl), .val (.int ja), .val (.int jb), .val (.int jc), .val (.int j0), .val (.int j1), .val (.int (1 : Int32)), .val (.int (0 : Int32)), .val (.int (1 : Int32)), .val (.int (0 : Int32)), .val (.double (FP.l2d (own_nz ja))), .second, .val (.double (FP.i2d jb)), .second, .val (.double (FP.l2d (own_nz jc))), .second, .val (.ref b15), .val (.ref b19), .val (.ref b34), .val (.ref b50), .val (.ref b64), .val (.ref b79), .val (.int (0 : Int32)), .val (.int (1 : Int32)), .val (.ref r181), .val (.double (FP.ddiv (FP.i2d j0) (FP.l2d (own_nz jc)))), .second, .val (.double (FP.ddiv (FP.dsub (FP.i2d j1) (FP.dmul (FP.i2d jb) (FP.ddiv (FP.i2d j0) (FP.l2d (own_nz jc))))) (FP.l2d (own_nz ja)))), .second] [(.int (0 : Int32)), (.ref r181)])) rfl rfl (hb hby at_229) _ ?_
      show Steps p.tables e below (T181.setTop (mkF m 230 #[.val (.int fl), .val (.int ja), .val (.int jb), .val (.int jc), .val (.int j0), .val (.int j1), .val (.int (1 : Int32)), .val (.int (0 : Int32)), .val (.int (1 : Int32)), .val (.int (0 : Int32)), .val (.double (FP.l2d (own_nz ja))), .second, .val (.double (FP.i2d jb)), .second, .val (.double (FP.l2d (own_nz jc))), .second, .val (.ref b15), .val (.ref b19), .val (.ref b34), .val (.ref b50), .val (.ref b64), .val (.ref b79), .val (.int (0 : Int32)), .val (.int (1 : Int32)), .val (.ref r181), .val (.double (FP.ddiv (FP.i2d j0) (FP.l2d (own_nz jc)))), .second, .val (.double (FP.ddiv (FP.dsub (FP.i2d j1) (FP.dmul (FP.i2d jb) (FP.ddiv (FP.i2d j0) (FP.l2d (own_nz jc))))) (FP.l2d (own_nz ja)))), .second] [(.double (FP.ddiv (FP.i2d j0) (FP.l2d (own_nz jc))))])) _
      refine XS.dload X181.here hx rfl (hb hby at_230) rfl ?_
      show Steps p.tables e below (T181.setTop (mkF m 232 #[.val (.int fl), .val (.int ja), .val (.int jb), .val (.int jc), .val (.int j0), .val (.int j1), .val (.int (1 : Int32)), .val (.int (0 : Int32)), .val (.int (1 : Int32)), .val (.int (0 : Int32)), .val (.double (FP.l2d (own_nz ja))), .second, .val (.double (FP.i2d jb)), .second, .val (.double (FP.l2d (own_nz jc))), .second, .val (.ref b15), .val (.ref b19), .val (.ref b34), .val (.ref b50), .val (.ref b64), .val (.ref b79), .val (.int (0 : Int32)), .val (.int (1 : Int32)), .val (.ref r181), .val (.double (FP.ddiv (FP.i2d j0) (FP.l2d (own_nz jc)))), .second, .val (.double (FP.ddiv (FP.dsub (FP.i2d j1) (FP.dmul (FP.i2d jb) (FP.ddiv (FP.i2d j0) (FP.l2d (own_nz jc))))) (FP.l2d (own_nz ja)))), .second] [(.double (FP.ddiv (FP.i2d j0) (FP.l2d (own_nz jc)))), (.double (FP.ddiv (FP.i2d j0) (FP.l2d (own_nz jc))))])) _
      refine XS.dcmpS X181.here hx rfl (hb hby at_232) rfl rfl ?_
      show Steps p.tables e below (T181.setTop (mkF m 233 #[.val (.int fl), .val (.int ja), .val (.int jb), .val (.int jc), .val (.int j0), .val (.int j1), .val (.int (1 : Int32)), .val (.int (0 : Int32)), .val (.int (1 : Int32)), .val (.int (0 : Int32)), .val (.double (FP.l2d (own_nz ja))), .second, .val (.double (FP.i2d jb)), .second, .val (.double (FP.l2d (own_nz jc))), .second, .val (.ref b15), .val (.ref b19), .val (.ref b34), .val (.ref b50), .val (.ref b64), .val (.ref b79), .val (.int (0 : Int32)), .val (.int (1 : Int32)), .val (.ref r181), .val (.double (FP.ddiv (FP.i2d j0) (FP.l2d (own_nz jc)))), .second, .val (.double (FP.ddiv (FP.dsub (FP.i2d j1) (FP.dmul (FP.i2d jb) (FP.ddiv (FP.i2d j0) (FP.l2d (own_nz jc))))) (FP.l2d (own_nz ja)))), .second] [(.int (cmpValue (FP.dcmp (FP.ddiv (FP.i2d j0) (FP.l2d (own_nz jc))) (FP.ddiv (FP.i2d j0) (FP.l2d (own_nz jc)))) .l))])) _
      exact kt
    have K192 : ∀ t, Steps p.tables e below (T181.setTop (mkF m 240 #[.val (.int fl), .val (.int ja), .val (.int jb), .val (.int jc), .val (.int j0), .val (.int j1), .val (.int (1 : Int32)), .val (.int (0 : Int32)), .val (.int (1 : Int32)), .val (.int (0 : Int32)), .val (.double (FP.l2d (own_nz ja))), .second, .val (.double (FP.i2d jb)), .second, .val (.double (FP.l2d (own_nz jc))), .second, .val (.ref b15), .val (.ref b19), .val (.ref b34), .val (.ref b50), .val (.ref b64), .val (.ref b79), .val (.int (0 : Int32)), .val (.int (1 : Int32)), .val (.ref r181), .val (.double (FP.ddiv (FP.i2d j0) (FP.l2d (own_nz jc)))), .second, .val (.double (FP.ddiv (FP.dsub (FP.i2d j1) (FP.dmul (FP.i2d jb) (FP.ddiv (FP.i2d j0) (FP.l2d (own_nz jc))))) (FP.l2d (own_nz ja)))), .second] [(.int (1 : Int32)), (.ref r181)])) t → Steps p.tables e below G0 t := by
      intro t kt
      refine K191 t ?_
      refine XS.ifNo X181.here hx rfl (hb hby at_233) rfl ((if0 _ _).trans (teq (dcmpV_self (own_n1 j0 _ hD) .l)).2) ?_
      show Steps p.tables e below (T181.setTop (mkF m 236 #[.val (.int fl), .val (.int ja), .val (.int jb), .val (.int jc), .val (.int j0), .val (.int j1), .val (.int (1 : Int32)), .val (.int (0 : Int32)), .val (.int (1 : Int32)), .val (.int (0 : Int32)), .val (.double (FP.l2d (own_nz ja))), .second, .val (.double (FP.i2d jb)), .second, .val (.double (FP.l2d (own_nz jc))), .second, .val (.ref b15), .val (.ref b19), .val (.ref b34), .val (.ref b50), .val (.ref b64), .val (.ref b79), .val (.int (0 : Int32)), .val (.int (1 : Int32)), .val (.ref r181), .val (.double (FP.ddiv (FP.i2d j0) (FP.l2d (own_nz jc)))), .second, .val (.double (FP.ddiv (FP.dsub (FP.i2d j1) (FP.dmul (FP.i2d jb) (FP.ddiv (FP.i2d j0) (FP.l2d (own_nz jc))))) (FP.l2d (own_nz ja)))), .second] [])) _
      refine XS.aload X181.here hx rfl (hb hby at_236) rfl rfl ?_
      show Steps p.tables e below (T181.setTop (mkF m 238 #[.val (.int fl), .val (.int ja), .val (.int jb), .val (.int jc), .val (.int j0), .val (.int j1), .val (.int (1 : Int32)), .val (.int (0 : Int32)), .val (.int (1 : Int32)), .val (.int (0 : Int32)), .val (.double (FP.l2d (own_nz ja))), .second, .val (.double (FP.i2d jb)), .second, .val (.double (FP.l2d (own_nz jc))), .second, .val (.ref b15), .val (.ref b19), .val (.ref b34), .val (.ref b50), .val (.ref b64), .val (.ref b79), .val (.int (0 : Int32)), .val (.int (1 : Int32)), .val (.ref r181), .val (.double (FP.ddiv (FP.i2d j0) (FP.l2d (own_nz jc)))), .second, .val (.double (FP.ddiv (FP.dsub (FP.i2d j1) (FP.dmul (FP.i2d jb) (FP.ddiv (FP.i2d j0) (FP.l2d (own_nz jc))))) (FP.l2d (own_nz ja)))), .second] [(.ref r181)])) _
      refine XS.iload X181.here hx rfl (hb hby at_238) rfl ?_
      show Steps p.tables e below (T181.setTop (mkF m 240 #[.val (.int fl), .val (.int ja), .val (.int jb), .val (.int jc), .val (.int j0), .val (.int j1), .val (.int (1 : Int32)), .val (.int (0 : Int32)), .val (.int (1 : Int32)), .val (.int (0 : Int32)), .val (.double (FP.l2d (own_nz ja))), .second, .val (.double (FP.i2d jb)), .second, .val (.double (FP.l2d (own_nz jc))), .second, .val (.ref b15), .val (.ref b19), .val (.ref b34), .val (.ref b50), .val (.ref b64), .val (.ref b79), .val (.int (0 : Int32)), .val (.int (1 : Int32)), .val (.ref r181), .val (.double (FP.ddiv (FP.i2d j0) (FP.l2d (own_nz jc)))), .second, .val (.double (FP.ddiv (FP.dsub (FP.i2d j1) (FP.dmul (FP.i2d jb) (FP.ddiv (FP.i2d j0) (FP.l2d (own_nz jc))))) (FP.l2d (own_nz ja)))), .second] [(.int (1 : Int32)), (.ref r181)])) _
      exact kt
    obtain ⟨cl193, Ar193, qq193, S193, M193, H193, GG193⟩ := id VX181
    have hin193 : ¬ ((1 : Int32) < 0 ∨ cl193.slots.size ≤ ((1 : Int32)).toNatClampNeg) := inb_of S193 ⟨by decide, by decide⟩
    have hat193 : cl193.slots[((1 : Int32)).toNatClampNeg]? = some (.double (FP.ddiv (FP.dsub (FP.i2d j1) (FP.dmul (FP.i2d jb) (FP.ddiv (FP.i2d j0) (FP.l2d (own_nz jc))))) (FP.l2d (own_nz ja)))) := Has.at H193 hin193 rfl
    have K194 : ∀ t, Steps p.tables e below (T181.setTop (mkF m 244 #[.val (.int fl), .val (.int ja), .val (.int jb), .val (.int jc), .val (.int j0), .val (.int j1), .val (.int (1 : Int32)), .val (.int (0 : Int32)), .val (.int (1 : Int32)), .val (.int (0 : Int32)), .val (.double (FP.l2d (own_nz ja))), .second, .val (.double (FP.i2d jb)), .second, .val (.double (FP.l2d (own_nz jc))), .second, .val (.ref b15), .val (.ref b19), .val (.ref b34), .val (.ref b50), .val (.ref b64), .val (.ref b79), .val (.int (0 : Int32)), .val (.int (1 : Int32)), .val (.ref r181), .val (.double (FP.ddiv (FP.i2d j0) (FP.l2d (own_nz jc)))), .second, .val (.double (FP.ddiv (FP.dsub (FP.i2d j1) (FP.dmul (FP.i2d jb) (FP.ddiv (FP.i2d j0) (FP.l2d (own_nz jc))))) (FP.l2d (own_nz ja)))), .second] [(.int (cmpValue (FP.dcmp (FP.ddiv (FP.dsub (FP.i2d j1) (FP.dmul (FP.i2d jb) (FP.ddiv (FP.i2d j0) (FP.l2d (own_nz jc))))) (FP.l2d (own_nz ja))) (FP.ddiv (FP.dsub (FP.i2d j1) (FP.dmul (FP.i2d jb) (FP.ddiv (FP.i2d j0) (FP.l2d (own_nz jc))))) (FP.l2d (own_nz ja)))) .l))])) t → Steps p.tables e below G0 t := by
      intro t kt
      refine K192 t ?_
      refine X181.daload hx (j := (1 : Int32)) (v := (.double (FP.ddiv (FP.dsub (FP.i2d j1) (FP.dmul (FP.i2d jb) (FP.ddiv (FP.i2d j0) (FP.l2d (own_nz jc))))) (FP.l2d (own_nz ja))))) (by rw [(rfl : T181.heap = _)]; exact (Ar193).1) (State.isArrayOf_alike hZ.alike (Ar193).2.1) (Ar193).2.2 hin193 hat193 (g := (mkF m 240 #[.val (.int fl), .val (.int ja), .val (.int jb), .val (.int jc), .val (.int j0), .val (.int j1), .val (.int (1 : Int32)), .val (.int (0 : Int32)), .val (.int (1 : Int32)), .val (.int (0 : Int32)), .val (.double (FP.l2d (own_nz ja))), .second, .val (.double (FP.i2d jb)), .second, .val (.double (FP.l2d (own_nz jc))), .second, .val (.ref b15), .val (.ref b19), .val (.ref b34), .val (.ref b50), .val (.ref b64), .val (.ref b79), .val (.int (0 : Int32)), .val (.int (1 : Int32)), .val (.ref r181), .val (.double (FP.ddiv (FP.i2d j0) (FP.l2d (own_nz jc)))), .second, .val (.double (FP.ddiv (FP.dsub (FP.i2d j1) (FP.dmul (FP.i2d jb) (FP.ddiv (FP.i2d j0) (FP.l2d (own_nz jc))))) (FP.l2d (own_nz ja)))), .second] [(.int (1 : Int32)), (.ref r181)])) rfl rfl (hb hby at_240) _ ?_
      show Steps p.tables e below (T181.setTop (mkF m 241 #[.val (.int fl), .val (.int ja), .val (.int jb), .val (.int jc), .val (.int j0), .val (.int j1), .val (.int (1 : Int32)), .val (.int (0 : Int32)), .val (.int (1 : Int32)), .val (.int (0 : Int32)), .val (.double (FP.l2d (own_nz ja))), .second, .val (.double (FP.i2d jb)), .second, .val (.double (FP.l2d (own_nz jc))), .second, .val (.ref b15), .val (.ref b19), .val (.ref b34), .val (.ref b50), .val (.ref b64), .val (.ref b79), .val (.int (0 : Int32)), .val (.int (1 : Int32)), .val (.ref r181), .val (.double (FP.ddiv (FP.i2d j0) (FP.l2d (own_nz jc)))), .second, .val (.double (FP.ddiv (FP.dsub (FP.i2d j1) (FP.dmul (FP.i2d jb) (FP.ddiv (FP.i2d j0) (FP.l2d (own_nz jc))))) (FP.l2d (own_nz ja)))), .second] [(.double (FP.ddiv (FP.dsub (FP.i2d j1) (FP.dmul (FP.i2d jb) (FP.ddiv (FP.i2d j0) (FP.l2d (own_nz jc))))) (FP.l2d (own_nz ja))))])) _
      refine XS.dload X181.here hx rfl (hb hby at_241) rfl ?_
      show Steps p.tables e below (T181.setTop (mkF m 243 #[.val (.int fl), .val (.int ja), .val (.int jb), .val (.int jc), .val (.int j0), .val (.int j1), .val (.int (1 : Int32)), .val (.int (0 : Int32)), .val (.int (1 : Int32)), .val (.int (0 : Int32)), .val (.double (FP.l2d (own_nz ja))), .second, .val (.double (FP.i2d jb)), .second, .val (.double (FP.l2d (own_nz jc))), .second, .val (.ref b15), .val (.ref b19), .val (.ref b34), .val (.ref b50), .val (.ref b64), .val (.ref b79), .val (.int (0 : Int32)), .val (.int (1 : Int32)), .val (.ref r181), .val (.double (FP.ddiv (FP.i2d j0) (FP.l2d (own_nz jc)))), .second, .val (.double (FP.ddiv (FP.dsub (FP.i2d j1) (FP.dmul (FP.i2d jb) (FP.ddiv (FP.i2d j0) (FP.l2d (own_nz jc))))) (FP.l2d (own_nz ja)))), .second] [(.double (FP.ddiv (FP.dsub (FP.i2d j1) (FP.dmul (FP.i2d jb) (FP.ddiv (FP.i2d j0) (FP.l2d (own_nz jc))))) (FP.l2d (own_nz ja)))), (.double (FP.ddiv (FP.dsub (FP.i2d j1) (FP.dmul (FP.i2d jb) (FP.ddiv (FP.i2d j0) (FP.l2d (own_nz jc))))) (FP.l2d (own_nz ja))))])) _
      refine XS.dcmpS X181.here hx rfl (hb hby at_243) rfl rfl ?_
      show Steps p.tables e below (T181.setTop (mkF m 244 #[.val (.int fl), .val (.int ja), .val (.int jb), .val (.int jc), .val (.int j0), .val (.int j1), .val (.int (1 : Int32)), .val (.int (0 : Int32)), .val (.int (1 : Int32)), .val (.int (0 : Int32)), .val (.double (FP.l2d (own_nz ja))), .second, .val (.double (FP.i2d jb)), .second, .val (.double (FP.l2d (own_nz jc))), .second, .val (.ref b15), .val (.ref b19), .val (.ref b34), .val (.ref b50), .val (.ref b64), .val (.ref b79), .val (.int (0 : Int32)), .val (.int (1 : Int32)), .val (.ref r181), .val (.double (FP.ddiv (FP.i2d j0) (FP.l2d (own_nz jc)))), .second, .val (.double (FP.ddiv (FP.dsub (FP.i2d j1) (FP.dmul (FP.i2d jb) (FP.ddiv (FP.i2d j0) (FP.l2d (own_nz jc))))) (FP.l2d (own_nz ja)))), .second] [(.int (cmpValue (FP.dcmp (FP.ddiv (FP.dsub (FP.i2d j1) (FP.dmul (FP.i2d jb) (FP.ddiv (FP.i2d j0) (FP.l2d (own_nz jc))))) (FP.l2d (own_nz ja))) (FP.ddiv (FP.dsub (FP.i2d j1) (FP.dmul (FP.i2d jb) (FP.ddiv (FP.i2d j0) (FP.l2d (own_nz jc))))) (FP.l2d (own_nz ja)))) .l))])) _
      exact kt
    have K195 : ∀ t, Steps p.tables e below (T181.setTop (mkF m 252 #[.val (.int fl), .val (.int ja), .val (.int jb), .val (.int jc), .val (.int j0), .val (.int j1), .val (.int (1 : Int32)), .val (.int (0 : Int32)), .val (.int (1 : Int32)), .val (.int (0 : Int32)), .val (.double (FP.l2d (own_nz ja))), .second, .val (.double (FP.i2d jb)), .second, .val (.double (FP.l2d (own_nz jc))), .second, .val (.ref b15), .val (.ref b19), .val (.ref b34), .val (.ref b50), .val (.ref b64), .val (.ref b79), .val (.int (0 : Int32)), .val (.int (1 : Int32)), .val (.ref r181), .val (.double (FP.ddiv (FP.i2d j0) (FP.l2d (own_nz jc)))), .second, .val (.double (FP.ddiv (FP.dsub (FP.i2d j1) (FP.dmul (FP.i2d jb) (FP.ddiv (FP.i2d j0) (FP.l2d (own_nz jc))))) (FP.l2d (own_nz ja)))), .second] [(.int (1 : Int32))])) t → Steps p.tables e below G0 t := by
      intro t kt
      refine K194 t ?_
      refine XS.ifNo X181.here hx rfl (hb hby at_244) rfl ((if0 _ _).trans (teq (dcmpV_self (own_n4 j1 jb j0 _ _ hD hA) .l)).2) ?_
      show Steps p.tables e below (T181.setTop (mkF m 247 #[.val (.int fl), .val (.int ja), .val (.int jb), .val (.int jc), .val (.int j0), .val (.int j1), .val (.int (1 : Int32)), .val (.int (0 : Int32)), .val (.int (1 : Int32)), .val (.int (0 : Int32)), .val (.double (FP.l2d (own_nz ja))), .second, .val (.double (FP.i2d jb)), .second, .val (.double (FP.l2d (own_nz jc))), .second, .val (.ref b15), .val (.ref b19), .val (.ref b34), .val (.ref b50), .val (.ref b64), .val (.ref b79), .val (.int (0 : Int32)), .val (.int (1 : Int32)), .val (.ref r181), .val (.double (FP.ddiv (FP.i2d j0) (FP.l2d (own_nz jc)))), .second, .val (.double (FP.ddiv (FP.dsub (FP.i2d j1) (FP.dmul (FP.i2d jb) (FP.ddiv (FP.i2d j0) (FP.l2d (own_nz jc))))) (FP.l2d (own_nz ja)))), .second] [])) _
      refine XS.iconst X181.here hx rfl (hb hby at_247) ?_
      show Steps p.tables e below (T181.setTop (mkF m 248 #[.val (.int fl), .val (.int ja), .val (.int jb), .val (.int jc), .val (.int j0), .val (.int j1), .val (.int (1 : Int32)), .val (.int (0 : Int32)), .val (.int (1 : Int32)), .val (.int (0 : Int32)), .val (.double (FP.l2d (own_nz ja))), .second, .val (.double (FP.i2d jb)), .second, .val (.double (FP.l2d (own_nz jc))), .second, .val (.ref b15), .val (.ref b19), .val (.ref b34), .val (.ref b50), .val (.ref b64), .val (.ref b79), .val (.int (0 : Int32)), .val (.int (1 : Int32)), .val (.ref r181), .val (.double (FP.ddiv (FP.i2d j0) (FP.l2d (own_nz jc)))), .second, .val (.double (FP.ddiv (FP.dsub (FP.i2d j1) (FP.dmul (FP.i2d jb) (FP.ddiv (FP.i2d j0) (FP.l2d (own_nz jc))))) (FP.l2d (own_nz ja)))), .second] [(.int (1 : Int32))])) _
      refine XS.goto X181.here hx rfl (pc0 := 248) (pc' := 252) rfl (hb hby at_248) (by decide) (by decide) ?_
      show Steps p.tables e below (T181.setTop (mkF m 252 #[.val (.int fl), .val (.int ja), .val (.int jb), .val (.int jc), .val (.int j0), .val (.int j1), .val (.int (1 : Int32)), .val (.int (0 : Int32)), .val (.int (1 : Int32)), .val (.int (0 : Int32)), .val (.double (FP.l2d (own_nz ja))), .second, .val (.double (FP.i2d jb)), .second, .val (.double (FP.l2d (own_nz jc))), .second, .val (.ref b15), .val (.ref b19), .val (.ref b34), .val (.ref b50), .val (.ref b64), .val (.ref b79), .val (.int (0 : Int32)), .val (.int (1 : Int32)), .val (.ref r181), .val (.double (FP.ddiv (FP.i2d j0) (FP.l2d (own_nz jc)))), .second, .val (.double (FP.ddiv (FP.dsub (FP.i2d j1) (FP.dmul (FP.i2d jb) (FP.ddiv (FP.i2d j0) (FP.l2d (own_nz jc))))) (FP.l2d (own_nz ja)))), .second] [(.int (1 : Int32))])) _
      exact kt
    obtain ⟨fs, hr, hrun, hended, hW, hsame⟩ := X181.leave (v := some (.int (1 : Int32))) (fun h => by rw [Bd.returns] at h; cases h)
    refine ⟨_, _, ?_, hrun, hended, _, _, rfl, ?_, ⟨_, rfl⟩, hW, hsame.mono (by decide) (by decide)⟩
    · rw [← hG0]
      refine K195 _ ?_
      exact retN X181 hx (t := .boolean) Bd.returns (by simp) (hb hby at_252) hr
    · show Q0 Z fl ja jb jc j0 j1 h0 n0 _ T181.heap _
      exact ⟨rfl, N181⟩
set_option maxRecDepth 65536 in
set_option maxHeartbeats 40000000 in
theorem comes_1 {Post : Tables → Env → Array Value → State → Outcome → State → Prop} (hpost : ∀ tb e args s v u, (limb_1_1.after args s (.returned v) u = true ∧ limb_1_2.after args s (.returned v) u = true ∧ True) → FrameEnd s (.returned v) u (Jvm.fieldLocs frame_1_writes args s ++ Jvm.arrayLocs frame_1_arrays args s ++ Jvm.staticLocs frame_1_statics s) 40 192 → Post tb e args s (.returned v) u) :
    ArmFor flags0 classFile x code maxLocals ret World_1 tables_1 room_1 Calls_1 rest_1 Pre_1 Post := by
  intro l hfl _ _ p e ha hc hk s m args below hf hA hF happ hP
  obtain ⟨hcalls, hrest, hpre⟩ := hP
  obtain ⟨-, -, -, hnamed, -, -, -, hat⟩ := (Spec.applies_iff hf).mp happ
  obtain ⟨hg, hn⟩ := and_e (Cond.before_iff.mp (show (Jvm.Cond.and given_1 narrow_1).before args s = true from hpre))
  obtain ⟨g1, g2⟩ := and_e hg
  obtain ⟨g3, g4⟩ := and_e g2
  obtain ⟨g5, g6⟩ := and_e g4
  obtain ⟨g7, g8⟩ := and_e g6
  obtain ⟨g9, g10⟩ := and_e g8
  obtain ⟨g11, g12⟩ := and_e g10
  obtain ⟨w0, w1, w2, w3, w4, w5, rfl⟩ : ∃ w0 w1 w2 w3 w4 w5 : Value, args = #[w0, w1, w2, w3, w4, w5] := by
    have hs : args.size = 6 := by simpa [Cond.value, given_1] using g1
    obtain ⟨L⟩ := args
    match L, hs with
    | [w0, w1, w2, w3, w4, w5], _ => exact ⟨w0, w1, w2, w3, w4, w5, rfl⟩
  have hw := fun d (hd : d ∈ tables_1) => atoms_spec (ws := Jvm.Cond.code x code maxLocals ret :: tables_1) hat d (List.mem_cons_of_mem _ hd)
  have hfit : Fit s := fun {y c} hc i hi => by
    obtain ⟨ha, rfl⟩ := Array.getElem?_eq_some_iff.mp hc
    have q := List.all_eq_true.mp ((Array.all_eq_true_iff_forall_mem.mp hF) _ (Array.getElem_mem ha)) i (List.mem_range.mpr hi)
    simpa [Array.getElem?_eq_getElem hi] using q
  obtain ⟨i0, ei0⟩ := is_v g3
  obtain rfl : w0 = (.int i0) := Option.some.inj ei0
  obtain ⟨i1, ei1⟩ := is_v g5
  obtain rfl : w1 = (.int i1) := Option.some.inj ei1
  obtain ⟨i2, ei2⟩ := is_v g7
  obtain rfl : w2 = (.int i2) := Option.some.inj ei2
  obtain ⟨i3, ei3⟩ := is_v g9
  obtain rfl : w3 = (.int i3) := Option.some.inj ei3
  obtain ⟨i4, ei4⟩ := is_v g11
  obtain rfl : w4 = (.int i4) := Option.some.inj ei4
  obtain ⟨i5, ei5⟩ := is_v g12
  obtain rfl : w5 = (.int i5) := Option.some.inj ei5
  obtain ⟨n, o, h1, h2, h3, _, L, rfl, ⟨rfl, N⟩, hq⟩ := rm0 l s _ hw tables_1 i0 i1 i2 i3 i4 i5  s.heap s.heap.size (Nat.le_refl _)  p e ha hc hk s m _ below hf ((Spec.applies_iff_loose hf).mp happ).1 ⟨rfl, State.Warmed39.refl s, rfl⟩ trivial
  refine ⟨n, _, h1, h2, h3, hpost _ _ _ _ _ _ ⟨Cond.after_iff.mpr rfl, Cond.after_iff.mpr (eq_i res_at (Term.int_eval (1)) rfl), trivial⟩ ⟨hq.1, hq.2.1, (hq.2.2.sift fun y hy => Or.inr (N y hy)).mono (by decide) (by decide)⟩⟩
theorem main_1_1 : Claimed_1_1 := comes_1 fun _ _ _ _ _ _ h hF => ⟨h.1, hF⟩
theorem main_1_2 : Claimed_1_2 := comes_1 fun _ _ _ _ _ _ h hF => ⟨h.2.1, hF⟩
end Jvm.Pilot.@@N@@
namespace Jvm.Pilot.@@N@@
open Jvm Jvm.ClassFile Sem Op Lib Jvm.Free Jvm.Stand Jvm.Pilot.@@N@@.Jvm.D
/-! MADE BY PROGRAM (witnessworld.py) out of the Statement's table words and the real class files: 12 classes; the members and pool entries that the words name. The judged class is class 1, her method 1. -/
namespace start1
open Jvm.ClassFile
def u (s : String) : CpInfo := .utf8 (stringToUtf16 s)
/-- a pool by its gaps: so many unusable entries, then the entry; so many at the end -/
def gap : Nat → List CpInfo → List CpInfo
  | 0, r => r
  | n + 1, r => .unusable :: gap n r
def poolList (es : List (Nat × CpInfo)) (last : Nat) : List CpInfo := es.foldr (fun e r => gap e.1 (e.2 :: r)) (gap last [])
def pool (es : List (Nat × CpInfo)) (last : Nat) : Array CpInfo := ⟨poolList es last⟩
def fileOf (pool : Array CpInfo) (this : Nat) (attrs : Array Attribute := #[]) (ms : Array MethodInfo := #[]) (fl : Nat := 33) (sup : Nat := 0) (ifs : Array Nat := #[]) (fds : Array FieldInfo := #[]) : ClassFile where
  minorVersion := 0
  majorVersion := 65
  constantPool := pool
  accessFlags := fl
  thisClass := this
  superClass := sup
  interfaces := ifs
  fields := fds
  methods := ms
  attributes := attrs
def plain (name : String) (sup : Option ClassId) : Class where
  name := name
  kind := .ordinary
  loader := none
  accessFlags := 33
  super := sup
  interfaces := #[]
  cf := none
  fields := #[]
  methods := #[]
  instanceTypes := #[]
  staticTypes := #[]
  resolved := #[]
  callSites := []
  init := .initialized
  statics := none
  mirror := none

def pool0 : Array CpInfo := pool [(5, u "<init>"), (0, u "()V"), (1, .class_ 10), (1, u "java/lang/Object")] 113

def k0c0 : Code := { maxStack := 0, maxLocals := 1, code := object_method_1_code, exceptionTable := #[], attributes := #[] }
def k0m0 : Method := { name := "<init>", desc := "()V", sig := { parameters := [], returnType := none }, accessFlags := 1, code := some k0c0 }
/-- java/lang/Object -/
def k0 : Class := { plain "java/lang/Object" none with
  accessFlags := 33
  interfaces := #[]
  cf := some (fileOf pool0 8 #[] #[{ accessFlags := 1, nameIndex := 5, descriptorIndex := 6, attributes := #[] }] 33 0 #[] #[])
  fields := #[]
  methods := #[k0m0]
  instanceTypes := #[]
  staticTypes := #[]
  resolved := Array.replicate 124 none
  statics := none }

def pool1 : Array CpInfo := pool [(2, .class_ 4), (1, u "java/lang/Object"), (0, u "<init>"), (0, u "()V"), (0, .class_ 8), (0, u "com/example/sondage/sondage/inference/Factorization"), (0, .methodref 7 10), (0, .nameAndType 5 11), (0, u "(II)V"), (0, .methodref 7 13), (0, .nameAndType 14 15), (0, u "pivot"), (0, u "(I[I[D)I"), (0, .methodref 7 17), (0, .nameAndType 18 19), (0, u "reductions"), (0, u "()J"), (0, .methodref 7 21), (0, .nameAndType 22 23), (0, u "solve"), (0, u "([D)[D"), (0, .class_ 25), (0, u "com/example/sondage/sondage/inference/FactorizationPivotPinLaw"), (2, u "law"), (0, u "(IIIIII)Z")] 7

def k1m0 : Method := { name := "<init>", desc := "()V", sig := { parameters := [], returnType := none }, accessFlags := 1, code := none }
def k1c1 : Code := { maxStack := 6, maxLocals := 29, code := code, exceptionTable := #[], attributes := #[] }
def k1m1 : Method := { name := "law", desc := "(IIIIII)Z", sig := { parameters := [.int, .int, .int, .int, .int, .int], returnType := some .boolean }, accessFlags := 9, code := some k1c1 }
/-- com/example/sondage/sondage/inference/FactorizationPivotPinLaw -/
def k1 : Class := { plain "com/example/sondage/sondage/inference/FactorizationPivotPinLaw" (some 0) with
  accessFlags := 49
  interfaces := #[]
  cf := some (fileOf pool1 24 #[] #[{ accessFlags := 1, nameIndex := 5, descriptorIndex := 6, attributes := #[] }, { accessFlags := 9, nameIndex := 28, descriptorIndex := 29, attributes := #[] }] 49 2 #[] #[])
  fields := #[]
  methods := #[k1m0, k1m1]
  instanceTypes := #[]
  staticTypes := #[]
  resolved := Array.replicate 37 none
  statics := none }

def pool2 : Array CpInfo := pool [(1, .methodref 2 3), (0, .class_ 4), (0, .nameAndType 5 6), (0, u "java/lang/Object"), (0, u "<init>"), (0, u "()V"), (0, .fieldref 8 9), (0, .class_ 10), (0, .nameAndType 11 12), (0, u "com/example/sondage/sondage/inference/Factorization"), (0, u "unknownCount"), (0, u "I"), (0, .fieldref 8 14), (0, .nameAndType 15 16), (0, u "determined"), (0, u "[Z"), (0, .class_ 18), (0, u "[I"), (0, .fieldref 8 20), (0, .nameAndType 21 22), (0, u "reducedBy"), (0, u "[[I"), (0, .class_ 24), (0, u "[D"), (0, .fieldref 8 26), (0, .nameAndType 27 28), (0, u "multipliers"), (0, u "[[D"), (0, .fieldref 8 30), (0, .nameAndType 31 18), (0, u "lengths"), (0, .methodref 33 34), (0, .class_ 35), (0, .nameAndType 36 37), (0, u "java/lang/Math"), (0, u "min"), (0, u "(II)I"), (0, .fieldref 8 39), (0, .nameAndType 40 18), (0, u "pivotEquation"), (0, .fieldref 8 42), (0, .nameAndType 43 22), (0, u "pivotUnknowns"), (0, .fieldref 8 45), (0, .nameAndType 46 28), (0, u "pivotCoefficients"), (0, .fieldref 8 48), (0, .nameAndType 49 12), (0, u "pivotCount"), (9, .fieldref 8 60), (0, .nameAndType 61 62), (0, u "reductions"), (0, u "J"), (4, u "(II)V"), (2, u "pivot"), (0, u "(I[I[D)I"), (7, u "()J"), (0, u "solve"), (0, u "([D)[D")] 4

def k2c0 : Code := { maxStack := 2, maxLocals := 4, code := prog_18_method_1_code, exceptionTable := #[], attributes := #[] }
def k2m0 : Method := { name := "<init>", desc := "(II)V", sig := { parameters := [.int, .int], returnType := none }, accessFlags := 0, code := some k2c0 }
def k2c1 : Code := { maxStack := 4, maxLocals := 5, code := prog_18_method_2_code, exceptionTable := #[], attributes := #[] }
def k2m1 : Method := { name := "pivot", desc := "(I[I[D)I", sig := { parameters := [.int, (.array .int), (.array .double)], returnType := some .int }, accessFlags := 0, code := some k2c1 }
def k2c2 : Code := { maxStack := 2, maxLocals := 1, code := prog_18_method_6_code, exceptionTable := #[], attributes := #[] }
def k2m2 : Method := { name := "reductions", desc := "()J", sig := { parameters := [], returnType := some .long }, accessFlags := 0, code := some k2c2 }
def k2c3 : Code := { maxStack := 7, maxLocals := 10, code := prog_18_method_7_code, exceptionTable := #[], attributes := #[] }
def k2m3 : Method := { name := "solve", desc := "([D)[D", sig := { parameters := [(.array .double)], returnType := some (.array .double) }, accessFlags := 0, code := some k2c3 }
/-- com/example/sondage/sondage/inference/Factorization -/
def k2 : Class := { plain "com/example/sondage/sondage/inference/Factorization" (some 0) with
  accessFlags := 48
  interfaces := #[]
  cf := some (fileOf pool2 8 #[] #[{ accessFlags := 0, nameIndex := 5, descriptorIndex := 67, attributes := #[] }, { accessFlags := 0, nameIndex := 70, descriptorIndex := 71, attributes := #[] }, { accessFlags := 0, nameIndex := 61, descriptorIndex := 79, attributes := #[] }, { accessFlags := 0, nameIndex := 80, descriptorIndex := 81, attributes := #[] }] 48 2 #[] #[{ accessFlags := 18, nameIndex := 11, descriptorIndex := 12, attributes := #[] }, { accessFlags := 18, nameIndex := 15, descriptorIndex := 16, attributes := #[] }, { accessFlags := 2, nameIndex := 49, descriptorIndex := 12, attributes := #[] }, { accessFlags := 18, nameIndex := 21, descriptorIndex := 22, attributes := #[] }, { accessFlags := 18, nameIndex := 27, descriptorIndex := 28, attributes := #[] }, { accessFlags := 18, nameIndex := 31, descriptorIndex := 18, attributes := #[] }, { accessFlags := 18, nameIndex := 40, descriptorIndex := 18, attributes := #[] }, { accessFlags := 2, nameIndex := 61, descriptorIndex := 62, attributes := #[] }, { accessFlags := 18, nameIndex := 43, descriptorIndex := 22, attributes := #[] }, { accessFlags := 18, nameIndex := 46, descriptorIndex := 28, attributes := #[] }])
  fields := #[{ name := "unknownCount", type := .int, accessFlags := 18, slot := 0, constantValue := 0 }, { name := "determined", type := (.array .boolean), accessFlags := 18, slot := 1, constantValue := 0 }, { name := "pivotCount", type := .int, accessFlags := 2, slot := 2, constantValue := 0 }, { name := "reducedBy", type := (.array (.array .int)), accessFlags := 18, slot := 3, constantValue := 0 }, { name := "multipliers", type := (.array (.array .double)), accessFlags := 18, slot := 4, constantValue := 0 }, { name := "lengths", type := (.array .int), accessFlags := 18, slot := 5, constantValue := 0 }, { name := "pivotEquation", type := (.array .int), accessFlags := 18, slot := 6, constantValue := 0 }, { name := "reductions", type := .long, accessFlags := 2, slot := 7, constantValue := 0 }, { name := "pivotUnknowns", type := (.array (.array .int)), accessFlags := 18, slot := 8, constantValue := 0 }, { name := "pivotCoefficients", type := (.array (.array .double)), accessFlags := 18, slot := 9, constantValue := 0 }]
  methods := #[k2m0, k2m1, k2m2, k2m3]
  instanceTypes := #[.int, (.array .boolean), .int, (.array (.array .int)), (.array (.array .double)), (.array .int), (.array .int), .long, (.array (.array .int)), (.array (.array .double))]
  staticTypes := #[]
  resolved := Array.replicate 86 none
  statics := none }

def pool3 : Array CpInfo := pool [(1, .class_ 2), (0, u "java/lang/Math"), (1, .class_ 6), (1, u "java/lang/Object"), (0, u "<init>"), (0, u "()V"), (89, .class_ 100), (1, u "java/lang/Math$RandomNumberGeneratorHolder"), (71, u "negativeZeroFloatBits"), (0, u "J"), (2, u "negativeZeroDoubleBits"), (24, u "min"), (43, u "$assertionsDisabled"), (0, u "Z"), (88, u "(II)I"), (2, u "twoToTheDoubleScaleDown"), (0, u "D"), (4, u "twoToTheDoubleScaleUp"), (9, u "E"), (3, u "PI"), (2, u "TAU"), (2, u "DEGREES_TO_RADIANS"), (0, u "RADIANS_TO_DEGREES")] 94

def k3m0 : Method := { name := "<init>", desc := "()V", sig := { parameters := [], returnType := none }, accessFlags := 2, code := none }
def k3c1 : Code := { maxStack := 2, maxLocals := 2, code := jdk_29_method_69_code, exceptionTable := #[], attributes := #[] }
def k3m1 : Method := { name := "min", desc := "(II)I", sig := { parameters := [.int, .int], returnType := some .int }, accessFlags := 9, code := some k3c1 }
/-- java/lang/Math -/
def k3 : Class := { plain "java/lang/Math" (some 0) with
  accessFlags := 49
  interfaces := #[]
  cf := some (fileOf pool3 1 #[.nestMembers #[98]] #[{ accessFlags := 2, nameIndex := 7, descriptorIndex := 8, attributes := #[] }, { accessFlags := 9, nameIndex := 201, descriptorIndex := 335, attributes := #[] }] 49 4 #[] #[{ accessFlags := 25, nameIndex := 354, descriptorIndex := 339, attributes := #[] }, { accessFlags := 25, nameIndex := 358, descriptorIndex := 339, attributes := #[] }, { accessFlags := 25, nameIndex := 361, descriptorIndex := 339, attributes := #[] }, { accessFlags := 26, nameIndex := 364, descriptorIndex := 339, attributes := #[] }, { accessFlags := 26, nameIndex := 365, descriptorIndex := 339, attributes := #[] }, { accessFlags := 26, nameIndex := 172, descriptorIndex := 173, attributes := #[] }, { accessFlags := 26, nameIndex := 176, descriptorIndex := 173, attributes := #[] }, { accessFlags := 8, nameIndex := 344, descriptorIndex := 339, attributes := #[] }, { accessFlags := 8, nameIndex := 338, descriptorIndex := 339, attributes := #[] }, { accessFlags := 4120, nameIndex := 245, descriptorIndex := 246, attributes := #[] }])
  fields := #[{ name := "E", type := .double, accessFlags := 25, slot := 0, constantValue := 0 }, { name := "PI", type := .double, accessFlags := 25, slot := 1, constantValue := 0 }, { name := "TAU", type := .double, accessFlags := 25, slot := 2, constantValue := 0 }, { name := "DEGREES_TO_RADIANS", type := .double, accessFlags := 26, slot := 3, constantValue := 0 }, { name := "RADIANS_TO_DEGREES", type := .double, accessFlags := 26, slot := 4, constantValue := 0 }, { name := "negativeZeroFloatBits", type := .long, accessFlags := 26, slot := 5, constantValue := 0 }, { name := "negativeZeroDoubleBits", type := .long, accessFlags := 26, slot := 6, constantValue := 0 }, { name := "twoToTheDoubleScaleUp", type := .double, accessFlags := 8, slot := 7, constantValue := 0 }, { name := "twoToTheDoubleScaleDown", type := .double, accessFlags := 8, slot := 8, constantValue := 0 }, { name := "$assertionsDisabled", type := .boolean, accessFlags := 4120, slot := 9, constantValue := 0 }]
  methods := #[k3m0, k3m1]
  instanceTypes := #[]
  staticTypes := #[.double, .double, .double, .double, .double, .long, .long, .double, .double, .boolean]
  resolved := Array.replicate 460 none
  statics := none }

def pool4 : Array CpInfo := pool [(1, u "java/lang/Cloneable"), (0, .class_ 1), (0, u "java/lang/Object"), (0, .class_ 3)] 3

/-- java/lang/Cloneable -/
def k4 : Class := { plain "java/lang/Cloneable" (some 0) with
  accessFlags := 1537
  interfaces := #[]
  cf := some (fileOf pool4 2 #[] #[] 1537 4 #[] #[])
  fields := #[]
  methods := #[]
  instanceTypes := #[]
  staticTypes := #[]
  resolved := Array.replicate 8 none
  statics := none }

def pool5 : Array CpInfo := pool [(1, u "java/io/Serializable"), (0, .class_ 1), (0, u "java/lang/Object"), (0, .class_ 3)] 3

/-- java/io/Serializable -/
def k5 : Class := { plain "java/io/Serializable" (some 0) with
  accessFlags := 1537
  interfaces := #[]
  cf := some (fileOf pool5 2 #[] #[] 1537 4 #[] #[])
  fields := #[]
  methods := #[]
  instanceTypes := #[]
  staticTypes := #[]
  resolved := Array.replicate 8 none
  statics := none }

/-- the primitive boolean -/
def k6 : Class := { plain "boolean" none with kind := .primitive 'Z', accessFlags := 0x411 }
/-- [Z -/
def k7 : Class := { plain "[Z" (some 0) with kind := .array 6 .boolean, interfaces := #[4, 5], accessFlags := 1041 }

/-- the primitive byte -/
def k8 : Class := { plain "byte" none with kind := .primitive 'B', accessFlags := 0x411 }
/-- [B -/
def k9 : Class := { plain "[B" (some 0) with kind := .array 8 .byte, interfaces := #[4, 5], accessFlags := 1041 }

/-- the primitive int -/
def k10 : Class := { plain "int" none with kind := .primitive 'I', accessFlags := 0x411 }
/-- [I -/
def k11 : Class := { plain "[I" (some 0) with kind := .array 10 .int, interfaces := #[4, 5], accessFlags := 1041 }

def heap : Heap := #[]
def k12 : Class := { plain "double" none with kind := .primitive 'D', accessFlags := 0x411 }
def k13 : Class := { plain "[D" (some 0) with kind := .array 12 .double, interfaces := #[4, 5], accessFlags := 1041 }
def k14 : Class := { plain "[[I" (some 0) with kind := .array 11 (.array .int), interfaces := #[4, 5], accessFlags := 1041 }
def k15 : Class := { plain "[[D" (some 0) with kind := .array 13 (.array .double), interfaces := #[4, 5], accessFlags := 1041 }
def classes : Array Class := #[k0, k1, k2, k3, k4, k5, k6, k7, k8, k9, k10, k11, k12, k13, k14, k15]
def interned : List (Array UInt16 × Addr) := []
def slotsUsed : Nat := 0
def theMethod : MethodId := ⟨1, 1⟩
def args0 : Array Value := #[.int 9, .int 7, .int 3, .int 4, .int 5, .int 6]
def aboutOver (below : List Frame) : State where
  vm := { classes := classes, interned := interned.toArray }
  heap := heap
  slotsUsed := slotsUsed
  threads := #[{ frames := .invoking theMethod args0 :: below }]
def below0 : List Frame := [.native { method := ⟨0, 0⟩, args := #[] }]
def about1 : State := aboutOver below0
def p0 : Program := .bare "" "" ""
def e0 : Env := launch0.env 0 0 0
theorem w_frames : about1.frames = Frame.invoking theMethod args0 :: below0 := rfl
set_option maxRecDepth 65536 in
theorem w_args : argsFit about1.vm theMethod args0 = true := by decide +kernel
set_option maxRecDepth 65536 in
theorem w_heap : heapFits about1 = true := by decide +kernel
set_option maxRecDepth 65536 in
theorem w_runnable : about1.curStatus? = some .runnable := by decide +kernel
set_option maxRecDepth 65536 in
theorem w_alone : about1.alone = true := by decide +kernel
set_option maxRecDepth 65536 in
theorem w_named : about1.methodNamed? x = some theMethod := by decide +kernel
set_option maxRecDepth 65536 in
theorem w_hears : about1.hears theMethod below0 = true := by decide +kernel
set_option maxRecDepth 65536 in
theorem w_ripe : about1.ripe theMethod args0 below0 = true := by decide +kernel
theorem w_running : about1.status = .running := rfl
set_option maxRecDepth 65536 in
theorem w_room : about1.hasRoom e0.platform room_1 = true :=
  launch0.hasRoom_least _ room_1 (by decide +kernel) (by decide +kernel) (by decide +kernel) (by decide +kernel) (by decide +kernel) (by decide +kernel)
theorem allAtoms_all (ts : List Jvm.Cond) (a : Array Jvm.Value) (st : Jvm.State) : (allAtoms ts).before a st = ts.all (fun c => c.before a st) := by
  induction ts with
  | nil => rfl
  | cons c t ih =>
    show (Jvm.Cond.and c (allAtoms t)).before a st = _
    rw [Jvm.Cond.before_and, ih, List.all_cons]
def words1 : List Jvm.Cond := Jvm.Cond.code x code maxLocals ret :: tables_1
/-- a 'code' word, met by the world's own term for the bytes: nothing is compared byte by byte -/
theorem code_word {y : MethodName} {bytes : ByteArray} {mx : Nat} {rt : Option FieldType} {a : Array Value} {s : State} {m : MethodId} {meth : Method} {c : Code} (h1 : s.methodNamed? y = some m) (h2 : s.vm.method? m = some meth) (h3 : meth.code = some c) (h4 : c.code = bytes)
    (h5 : (c.maxLocals == mx && c.exceptionTable.isEmpty && decide (c.maxStack ≤ mostOperands) && decide (meth.sig.returnType = rt) && !meth.locks && decide (parseMethodDescriptor y.desc = some meth.sig)) = true) : (Jvm.Cond.code y bytes mx rt).before a s = true := by
  simp only [Bool.and_eq_true, beq_iff_eq, Bool.not_eq_true', decide_eq_true_eq] at h5
  obtain ⟨⟨⟨⟨⟨g1, g2⟩, g3⟩, g4⟩, g5⟩, g6⟩ := h5
  simp [Cond.before, Cond.holds, Cond.value, h1, h2, h3, h4, g1, g2, g3, g4, g5, g6]
def isCode : Jvm.Cond → Bool
  | .code _ _ _ _ => true
  | _ => false
theorem all_split {L : List Jvm.Cond} {P : Jvm.Cond → Bool} (h1 : L.all (fun c => isCode c || P c) = true) (h2 : ∀ c ∈ L.filter isCode, P c = true) : L.all P = true := by
  refine List.all_eq_true.mpr fun c hc => ?_
  have h := List.all_eq_true.mp h1 c hc
  rcases Bool.eq_false_or_eq_true (isCode c) with hi | hi
  · exact h2 c (List.mem_filter.mpr ⟨hc, hi⟩)
  · simpa [hi] using h
set_option maxRecDepth 65536 in
theorem w_c0 : (Jvm.Cond.code x code maxLocals ret).before args0 about1 = true := code_word (m := ⟨1, 1⟩) (meth := k1m1) (c := k1c1) (by decide +kernel) rfl rfl rfl (by decide +kernel)
set_option maxRecDepth 65536 in
theorem w_c1 : (Jvm.Cond.code ({ cls := "com/example/sondage/sondage/inference/Factorization", name := "<init>", desc := "(II)V" } : Jvm.MethodName) prog_18_method_1_code (4 : Nat) (Option.none : Option Jvm.ClassFile.FieldType)).before args0 about1 = true := code_word (m := ⟨2, 0⟩) (meth := k2m0) (c := k2c0) (by decide +kernel) rfl rfl rfl (by decide +kernel)
set_option maxRecDepth 65536 in
theorem w_c2 : (Jvm.Cond.code ({ cls := "java/lang/Object", name := "<init>", desc := "()V" } : Jvm.MethodName) object_method_1_code (1 : Nat) (Option.none : Option Jvm.ClassFile.FieldType)).before args0 about1 = true := code_word (m := ⟨0, 0⟩) (meth := k0m0) (c := k0c0) (by decide +kernel) rfl rfl rfl (by decide +kernel)
set_option maxRecDepth 65536 in
theorem w_c3 : (Jvm.Cond.code ({ cls := "java/lang/Math", name := "min", desc := "(II)I" } : Jvm.MethodName) jdk_29_method_69_code (2 : Nat) (Option.some Jvm.ClassFile.FieldType.int)).before args0 about1 = true := code_word (m := ⟨3, 1⟩) (meth := k3m1) (c := k3c1) (by decide +kernel) rfl rfl rfl (by decide +kernel)
set_option maxRecDepth 65536 in
theorem w_c4 : (Jvm.Cond.code ({ cls := "com/example/sondage/sondage/inference/Factorization", name := "pivot", desc := "(I[I[D)I" } : Jvm.MethodName) prog_18_method_2_code (5 : Nat) (Option.some Jvm.ClassFile.FieldType.int)).before args0 about1 = true := code_word (m := ⟨2, 1⟩) (meth := k2m1) (c := k2c1) (by decide +kernel) rfl rfl rfl (by decide +kernel)
set_option maxRecDepth 65536 in
theorem w_c5 : (Jvm.Cond.code ({ cls := "com/example/sondage/sondage/inference/Factorization", name := "reductions", desc := "()J" } : Jvm.MethodName) prog_18_method_6_code (1 : Nat) (Option.some Jvm.ClassFile.FieldType.long)).before args0 about1 = true := code_word (m := ⟨2, 2⟩) (meth := k2m2) (c := k2c2) (by decide +kernel) rfl rfl rfl (by decide +kernel)
set_option maxRecDepth 65536 in
theorem w_c6 : (Jvm.Cond.code ({ cls := "com/example/sondage/sondage/inference/Factorization", name := "solve", desc := "([D)[D" } : Jvm.MethodName) prog_18_method_7_code (10 : Nat) (Option.some (Jvm.ClassFile.FieldType.array Jvm.ClassFile.FieldType.double))).before args0 about1 = true := code_word (m := ⟨2, 3⟩) (meth := k2m3) (c := k2c3) (by decide +kernel) rfl rfl rfl (by decide +kernel)
def codes1 : List Jvm.Cond := [Jvm.Cond.code x code maxLocals ret, Jvm.Cond.code ({ cls := "com/example/sondage/sondage/inference/Factorization", name := "<init>", desc := "(II)V" } : Jvm.MethodName) prog_18_method_1_code (4 : Nat) (Option.none : Option Jvm.ClassFile.FieldType), Jvm.Cond.code ({ cls := "java/lang/Object", name := "<init>", desc := "()V" } : Jvm.MethodName) object_method_1_code (1 : Nat) (Option.none : Option Jvm.ClassFile.FieldType), Jvm.Cond.code ({ cls := "java/lang/Math", name := "min", desc := "(II)I" } : Jvm.MethodName) jdk_29_method_69_code (2 : Nat) (Option.some Jvm.ClassFile.FieldType.int), Jvm.Cond.code ({ cls := "com/example/sondage/sondage/inference/Factorization", name := "pivot", desc := "(I[I[D)I" } : Jvm.MethodName) prog_18_method_2_code (5 : Nat) (Option.some Jvm.ClassFile.FieldType.int), Jvm.Cond.code ({ cls := "com/example/sondage/sondage/inference/Factorization", name := "reductions", desc := "()J" } : Jvm.MethodName) prog_18_method_6_code (1 : Nat) (Option.some Jvm.ClassFile.FieldType.long), Jvm.Cond.code ({ cls := "com/example/sondage/sondage/inference/Factorization", name := "solve", desc := "([D)[D" } : Jvm.MethodName) prog_18_method_7_code (10 : Nat) (Option.some (Jvm.ClassFile.FieldType.array Jvm.ClassFile.FieldType.double))]
set_option maxRecDepth 65536 in
theorem codes_eq : words1.filter isCode = codes1 := rfl
theorem w_codes : ∀ c ∈ words1.filter isCode, c.before args0 about1 = true := by
  rw [codes_eq]
  intro c hc
  simp only [codes1, List.mem_cons, List.not_mem_nil, or_false] at hc
  rcases hc with rfl | rfl | rfl | rfl | rfl | rfl | rfl
  · exact w_c0
  · exact w_c1
  · exact w_c2
  · exact w_c3
  · exact w_c4
  · exact w_c5
  · exact w_c6
set_option maxRecDepth 65536 in
theorem w_t1 : (words1.take 24).all (fun c => isCode c || c.before args0 about1) = true := by decide +kernel
set_option maxRecDepth 65536 in
theorem w_t2 : ((words1.drop 24).take 24).all (fun c => isCode c || c.before args0 about1) = true := by decide +kernel
set_option maxRecDepth 65536 in
theorem w_t3 : ((words1.drop 24).drop 24).all (fun c => isCode c || c.before args0 about1) = true := by decide +kernel
theorem w_tables : (allAtoms (Jvm.Cond.code x code maxLocals ret :: tables_1)).before args0 about1 = true := by
  rw [allAtoms_all]
  show words1.all (fun c => c.before args0 about1) = true
  refine all_split ?_ w_codes
  rw [← List.take_append_drop 24 words1, List.all_append, w_t1, ← List.take_append_drop 24 (words1.drop 24), List.all_append, w_t2, w_t3]
  rfl
set_option maxRecDepth 65536 in
theorem w_case : (Jvm.Cond.and given_1 narrow_1).before args0 about1 = true := by decide +kernel
theorem w_applies : (headSpec (Jvm.Cond.code x code maxLocals ret :: tables_1) room_1).applies x e0.platform about1 = true :=
  (Spec.applies_iff w_frames).mpr ⟨w_running, w_runnable, w_alone, w_named, w_hears, w_ripe, w_room, w_tables⟩
theorem atStart : AtStart classFile x code maxLocals ret World_1 tables_1 room_1 Calls_1 rest_1 Pre_1 launch0 p0 e0 about1 theMethod args0 below0 :=
  ⟨lists_1, trivial, launch0.admits_env _ _ _, launch0.least_env, fairChoices_fair.cas, fairChoices_fair.clock, w_frames, w_args, w_heap, w_applies, trivial, trivial, w_case⟩
end start1
theorem witness_1 : WitnessClaimed_1 := ⟨start1.p0, start1.e0, start1.about1, start1.theMethod, start1.args0, start1.below0, start1.atStart⟩
end Jvm.Pilot.@@N@@
