import JvmDerived
import JvmDerived.Pilot.@@N@@Statement
import JvmDerived.Pilot.@@N@@Code
set_option linter.unusedVariables false
set_option linter.unusedSimpArgs false
namespace Jvm.Pilot.@@N@@
open Jvm Jvm.ClassFile Sem Op Lib Jvm.Free Jvm.Stand Jvm.LawKit Jvm.RoadKit Bundle Jvm.Pilot.@@N@@.Jvm.D
def own_lo (a b : Int32) : Int32 := if b < a then b else a
def own_hi (a b : Int32) : Int32 := if b < a then a else b
def own_inc (q y e : Int32) : Int32 := if q < y then e else e + 1
theorem own_lohi (a b : Int32) : (own_lo a b).toInt ≤ (own_hi a b).toInt ∧ ((own_lo a b).toInt = a.toInt ∧ (own_hi a b).toInt = b.toInt ∨ (own_lo a b).toInt = b.toInt ∧ (own_hi a b).toInt = a.toInt) := by
  unfold own_lo own_hi
  split
  · rename_i h
    rw [Int32.lt_iff_toInt_lt] at h
    omega
  · rename_i h
    rw [Int32.lt_iff_toInt_lt] at h
    omega
theorem own_net {a b c d s0 s1 s2 s3 t0 t1 t2 t3 u1 u2 : Int32} (h1 : s0 = own_lo a b) (h2 : s1 = own_hi a b) (h3 : s2 = own_lo c d) (h4 : s3 = own_hi c d) (h5 : t0 = own_lo s0 s2) (h6 : t2 = own_hi s0 s2) (h7 : t1 = own_lo s1 s3) (h8 : t3 = own_hi s1 s3) (h9 : u1 = own_lo t1 t2) (h10 : u2 = own_hi t1 t2) :
    t0.toInt ≤ u1.toInt ∧ u1.toInt ≤ u2.toInt ∧ u2.toInt ≤ t3.toInt := by
  have e1 := own_lohi a b
  have e2 := own_lohi c d
  have e3 := own_lohi s0 s2
  have e4 := own_lohi s1 s3
  have e5 := own_lohi t1 t2
  rw [← h1, ← h2] at e1
  rw [← h3, ← h4] at e2
  rw [← h5, ← h6] at e3
  rw [← h7, ← h8] at e4
  rw [← h9, ← h10] at e5
  clear h1 h2 h3 h4 h5 h6 h7 h8 h9 h10
  omega
theorem own_n (x : Int32) : let n := ((x &&& (2147483647 : Int32)) % (5 : Int32)); n = 0 ∨ n = 1 ∨ n = 2 ∨ n = 3 ∨ n = 4 := by
  intro n
  have h := c_mask x 2147483647 31 (by decide) (by decide)
  have g := (c_irem (x &&& (2147483647 : Int32)) 5 5 (by decide)).1
  have e0 : (0 : Int32).toInt = 0 := by decide
  have e1 : (1 : Int32).toInt = 1 := by decide
  have e2 : (2 : Int32).toInt = 2 := by decide
  have e3 : (3 : Int32).toInt = 3 := by decide
  have e4 : (4 : Int32).toInt = 4 := by decide
  have hn : n.toInt = (x &&& (2147483647 : Int32)).toInt % 5 := g (by omega)
  simp only [← Int32.toInt_inj, e0, e1, e2, e3, e4]
  omega
theorem own_pk (u p : Int32) (hp : p = (u &&& (7 : Int32))) (h : p < (4 : Int32)) : p = 0 ∨ p = 1 ∨ p = 2 ∨ p = 3 := by
  have g := c_mask u 7 3 (by decide) (by decide)
  rw [← hp] at g
  have e0 : (0 : Int32).toInt = 0 := by decide
  have e1 : (1 : Int32).toInt = 1 := by decide
  have e2 : (2 : Int32).toInt = 2 := by decide
  have e3 : (3 : Int32).toInt = 3 := by decide
  have e4 : (4 : Int32).toInt = 4 := by decide
  rw [Int32.lt_iff_toInt_lt, e4] at h
  simp only [← Int32.toInt_inj, e0, e1, e2, e3]
  omega
theorem d1_0 : decode method_3_code 0 = .ok (.aload_n 0, 1) := by decide +kernel
theorem d1_1 : decode method_3_code 1 = .ok (.iload_n 1, 1) := by decide +kernel
theorem d1_2 : decode method_3_code 2 = .ok (.iaload, 1) := by decide +kernel
theorem d1_3 : decode method_3_code 3 = .ok (.aload_n 0, 1) := by decide +kernel
theorem d1_4 : decode method_3_code 4 = .ok (.iload_n 2, 1) := by decide +kernel
theorem d1_5 : decode method_3_code 5 = .ok (.iaload, 1) := by decide +kernel
theorem d1_6 : decode method_3_code 6 = .ok (.if_icmp .le 17, 3) := by decide +kernel
theorem d1_9 : decode method_3_code 9 = .ok (.aload_n 0, 1) := by decide +kernel
theorem d1_10 : decode method_3_code 10 = .ok (.iload_n 1, 1) := by decide +kernel
theorem d1_11 : decode method_3_code 11 = .ok (.iaload, 1) := by decide +kernel
theorem d1_12 : decode method_3_code 12 = .ok (.istore_n 3, 1) := by decide +kernel
theorem d1_13 : decode method_3_code 13 = .ok (.aload_n 0, 1) := by decide +kernel
theorem d1_14 : decode method_3_code 14 = .ok (.iload_n 1, 1) := by decide +kernel
theorem d1_15 : decode method_3_code 15 = .ok (.aload_n 0, 1) := by decide +kernel
theorem d1_16 : decode method_3_code 16 = .ok (.iload_n 2, 1) := by decide +kernel
theorem d1_17 : decode method_3_code 17 = .ok (.iaload, 1) := by decide +kernel
theorem d1_18 : decode method_3_code 18 = .ok (.iastore, 1) := by decide +kernel
theorem d1_19 : decode method_3_code 19 = .ok (.aload_n 0, 1) := by decide +kernel
theorem d1_20 : decode method_3_code 20 = .ok (.iload_n 2, 1) := by decide +kernel
theorem d1_21 : decode method_3_code 21 = .ok (.iload_n 3, 1) := by decide +kernel
theorem d1_22 : decode method_3_code 22 = .ok (.iastore, 1) := by decide +kernel
theorem d1_23 : decode method_3_code 23 = .ok (.return_, 1) := by decide +kernel
theorem pn_com_example_lichen_lichen_analysis_RunsCountUpToPinLaw : plainName "com/example/lichen/lichen/analysis/RunsCountUpToPinLaw" = true := by first | (simp [plainName, overriddenIn]; done) | decide +kernel
theorem ef_rm1_01 (m : MethodId) (a0 : Addr) : entryFrame m #[(.ref a0), (.int (0 : Int32)), (.int (1 : Int32))] 4 = (mkF m 0 #[.val (.ref a0), .val (.int (0 : Int32)), .val (.int (1 : Int32)), .unset] []) := by first | (simp [entryFrame, mkF, argsToLocals, Value.category]; done) | rfl
def Q1_01 (Z : State) (a0 : Addr) (ka : ClassId) (y0 : Int32) (y1 : Int32) (y2 : Int32) (y3 : Int32) (h0 : Heap) (n0 : Nat) (v : Option Value) (h : Heap) (L : List Loc) : Prop := v = none ∧ Fr n0 L ∧ Keep h0 h [a0] ∧ Arv Z h a0 ka .int (4 : Int32) [(.int (own_lo y0 y1)), (.int (own_hi y0 y1)), (.int y2), (.int y3)] (.int (0 : Int32))
set_option maxRecDepth 65536 in
set_option maxHeartbeats 40000000 in
theorem rm1_01 (l : Launch) (Z : State) (aa : Array Value) (hw : ∀ d ∈ tables_1, d.before aa Z = true) (ws : List Jvm.Cond) (a0 : Addr) (ka : ClassId) (y0 : Int32) (y1 : Int32) (y2 : Int32) (y3 : Int32) (h0 : Heap) (n0 : Nat) (Z0 : n0 ≤ h0.size) (gn : n0 ≤ a0) (V0 : Arv Z h0 a0 ka .int (4 : Int32) [(.int y0), (.int y1), (.int y2), (.int y3)] (.int (0 : Int32))) :
    MetFree l (⟨"com/example/lichen/lichen/analysis/RunsCountUpToPinLaw", "order", "([III)V"⟩ : MethodName) (head1 (Jvm.Cond.code (⟨"com/example/lichen/lichen/analysis/RunsCountUpToPinLaw", "order", "([III)V"⟩ : MethodName) method_3_code 4 none :: ws) ({ frames := 0, cells := 0, slots := 0, locals := 0 } : Room)) (fun a U => a = #[(.ref a0), (.int (0 : Int32)), (.int (1 : Int32))] ∧ Z.Warmed39 U.vm ∧ U.heap = h0) (fun _ _ _ _ _ => True) (fun _ U o U' => ∃ v L, o = .returned v ∧ Q1_01 Z a0 ka y0 y1 y2 y3 h0 n0 v U'.heap L ∧ FrameEnd U o U' L ({ frames := 0, cells := 0, slots := 0, locals := 0 } : Room).cells ({ frames := 0, cells := 0, slots := 0, locals := 0 } : Room).slots) := by
  refine MetFree.of_bodySF (plainFor_of_name pn_com_example_lichen_lichen_analysis_RunsCountUpToPinLaw) hisR ?_
  intro p e s m args below meth c s₁ Bd hml0 hP hK
  obtain ⟨rfl, hZ, hh⟩ := hP
  have hx := Bd.exec
  have hby := Bd.bytes
  have hml : c.maxLocals = 4 := hml0
  have hown : s.vm.findClass "com/example/lichen/lichen/analysis/RunsCountUpToPinLaw" = some m.cls := findClass_of_methodNamed Bd.named
  have hnm := (name_of_methodNamed Bd.named Bd.method).1
  have X0 : Stand p l e ({ frames := 0, cells := 0, slots := 0, locals := 0 } : Room) s m #[(.ref a0), (.int (0 : Int32)), (.int (1 : Int32))] below meth c s₁ [] 0 0 := Stand.of_body Bd
  have e0 : s₁.heap = h0 := by rw [← hh, Bd.state]; rfl
  have N0 := Fr.nil n0
  obtain ⟨G0, hG0⟩ : ∃ G, G = s₁.setTop (entryFrame m #[(.ref a0), (.int (0 : Int32)), (.int (1 : Int32))] 4) := ⟨_, rfl⟩
  have K0 : ∀ t, Steps p.tables e below (s₁.setTop (mkF m 0 #[.val (.ref a0), .val (.int (0 : Int32)), .val (.int (1 : Int32)), .unset] [])) t → Steps p.tables e below G0 t := fun t k => by rw [hG0]; exact castTop (ef_rm1_01 m a0) k
  have K1 : ∀ t, Steps p.tables e below (s₁.setTop (mkF m 2 #[.val (.ref a0), .val (.int (0 : Int32)), .val (.int (1 : Int32)), .unset] [(.int (0 : Int32)), (.ref a0)])) t → Steps p.tables e below G0 t := by
    intro t kt
    refine K0 t ?_
    refine XS.aloadN X0.here hx rfl (hb hby d1_0) rfl rfl ?_
    show Steps p.tables e below (s₁.setTop (mkF m 1 #[.val (.ref a0), .val (.int (0 : Int32)), .val (.int (1 : Int32)), .unset] [(.ref a0)])) _
    refine XS.iloadN X0.here hx rfl (hb hby d1_1) rfl ?_
    show Steps p.tables e below (s₁.setTop (mkF m 2 #[.val (.ref a0), .val (.int (0 : Int32)), .val (.int (1 : Int32)), .unset] [(.int (0 : Int32)), (.ref a0)])) _
    exact kt
  obtain ⟨cl2, Ar2, qq2, S2, M2, H2, GG2⟩ := id V0
  have hin2 : ¬ ((0 : Int32) < 0 ∨ cl2.slots.size ≤ ((0 : Int32)).toNatClampNeg) := inb_of S2 ⟨by decide, by decide⟩
  have hat2 : cl2.slots[((0 : Int32)).toNatClampNeg]? = some (.int y0) := Has.at H2 hin2 rfl
  have K3 : ∀ t, Steps p.tables e below (s₁.setTop (mkF m 5 #[.val (.ref a0), .val (.int (0 : Int32)), .val (.int (1 : Int32)), .unset] [(.int (1 : Int32)), (.ref a0), (.int y0)])) t → Steps p.tables e below G0 t := by
    intro t kt
    refine K1 t ?_
    refine X0.iaload hx (j := (0 : Int32)) (v := (.int y0)) (by rw [e0]; exact (Ar2).1) (State.isArrayOf_alike hZ.alike (Ar2).2.1) (Ar2).2.2 hin2 hat2 (g := (mkF m 2 #[.val (.ref a0), .val (.int (0 : Int32)), .val (.int (1 : Int32)), .unset] [(.int (0 : Int32)), (.ref a0)])) rfl rfl (hb hby d1_2) _ ?_
    show Steps p.tables e below (s₁.setTop (mkF m 3 #[.val (.ref a0), .val (.int (0 : Int32)), .val (.int (1 : Int32)), .unset] [(.int y0)])) _
    refine XS.aloadN X0.here hx rfl (hb hby d1_3) rfl rfl ?_
    show Steps p.tables e below (s₁.setTop (mkF m 4 #[.val (.ref a0), .val (.int (0 : Int32)), .val (.int (1 : Int32)), .unset] [(.ref a0), (.int y0)])) _
    refine XS.iloadN X0.here hx rfl (hb hby d1_4) rfl ?_
    show Steps p.tables e below (s₁.setTop (mkF m 5 #[.val (.ref a0), .val (.int (0 : Int32)), .val (.int (1 : Int32)), .unset] [(.int (1 : Int32)), (.ref a0), (.int y0)])) _
    exact kt
  obtain ⟨cl4, Ar4, qq4, S4, M4, H4, GG4⟩ := id V0
  have hin4 : ¬ ((1 : Int32) < 0 ∨ cl4.slots.size ≤ ((1 : Int32)).toNatClampNeg) := inb_of S4 ⟨by decide, by decide⟩
  have hat4 : cl4.slots[((1 : Int32)).toNatClampNeg]? = some (.int y1) := Has.at H4 hin4 rfl
  have K5 : ∀ t, Steps p.tables e below (s₁.setTop (mkF m 6 #[.val (.ref a0), .val (.int (0 : Int32)), .val (.int (1 : Int32)), .unset] [(.int y1), (.int y0)])) t → Steps p.tables e below G0 t := by
    intro t kt
    refine K3 t ?_
    refine X0.iaload hx (j := (1 : Int32)) (v := (.int y1)) (by rw [e0]; exact (Ar4).1) (State.isArrayOf_alike hZ.alike (Ar4).2.1) (Ar4).2.2 hin4 hat4 (g := (mkF m 5 #[.val (.ref a0), .val (.int (0 : Int32)), .val (.int (1 : Int32)), .unset] [(.int (1 : Int32)), (.ref a0), (.int y0)])) rfl rfl (hb hby d1_5) _ ?_
    show Steps p.tables e below (s₁.setTop (mkF m 6 #[.val (.ref a0), .val (.int (0 : Int32)), .val (.int (1 : Int32)), .unset] [(.int y1), (.int y0)])) _
    exact kt
  by_cases hc6 : y1 < y0
  ·
    have K7 : ∀ t, Steps p.tables e below (s₁.setTop (mkF m 11 #[.val (.ref a0), .val (.int (0 : Int32)), .val (.int (1 : Int32)), .unset] [(.int (0 : Int32)), (.ref a0)])) t → Steps p.tables e below G0 t := by
      intro t kt
      refine K5 t ?_
      refine XS.icmpNo X0.here hx rfl (hb hby d1_6) rfl (tlt hc6).2.2.2 ?_
      show Steps p.tables e below (s₁.setTop (mkF m 9 #[.val (.ref a0), .val (.int (0 : Int32)), .val (.int (1 : Int32)), .unset] [])) _
      refine XS.aloadN X0.here hx rfl (hb hby d1_9) rfl rfl ?_
      show Steps p.tables e below (s₁.setTop (mkF m 10 #[.val (.ref a0), .val (.int (0 : Int32)), .val (.int (1 : Int32)), .unset] [(.ref a0)])) _
      refine XS.iloadN X0.here hx rfl (hb hby d1_10) rfl ?_
      show Steps p.tables e below (s₁.setTop (mkF m 11 #[.val (.ref a0), .val (.int (0 : Int32)), .val (.int (1 : Int32)), .unset] [(.int (0 : Int32)), (.ref a0)])) _
      exact kt
    obtain ⟨cl8, Ar8, qq8, S8, M8, H8, GG8⟩ := id V0
    have hin8 : ¬ ((0 : Int32) < 0 ∨ cl8.slots.size ≤ ((0 : Int32)).toNatClampNeg) := inb_of S8 ⟨by decide, by decide⟩
    have hat8 : cl8.slots[((0 : Int32)).toNatClampNeg]? = some (.int y0) := Has.at H8 hin8 rfl
    have K9 : ∀ t, Steps p.tables e below (s₁.setTop (mkF m 17 #[.val (.ref a0), .val (.int (0 : Int32)), .val (.int (1 : Int32)), .val (.int y0)] [(.int (1 : Int32)), (.ref a0), (.int (0 : Int32)), (.ref a0)])) t → Steps p.tables e below G0 t := by
      intro t kt
      refine K7 t ?_
      refine X0.iaload hx (j := (0 : Int32)) (v := (.int y0)) (by rw [e0]; exact (Ar8).1) (State.isArrayOf_alike hZ.alike (Ar8).2.1) (Ar8).2.2 hin8 hat8 (g := (mkF m 11 #[.val (.ref a0), .val (.int (0 : Int32)), .val (.int (1 : Int32)), .unset] [(.int (0 : Int32)), (.ref a0)])) rfl rfl (hb hby d1_11) _ ?_
      show Steps p.tables e below (s₁.setTop (mkF m 12 #[.val (.ref a0), .val (.int (0 : Int32)), .val (.int (1 : Int32)), .unset] [(.int y0)])) _
      refine XS.istoreN X0.here hx rfl (hb hby d1_12) rfl (l' := #[.val (.ref a0), .val (.int (0 : Int32)), .val (.int (1 : Int32)), .val (.int y0)]) rfl ?_
      show Steps p.tables e below (s₁.setTop (mkF m 13 #[.val (.ref a0), .val (.int (0 : Int32)), .val (.int (1 : Int32)), .val (.int y0)] [])) _
      refine XS.aloadN X0.here hx rfl (hb hby d1_13) rfl rfl ?_
      show Steps p.tables e below (s₁.setTop (mkF m 14 #[.val (.ref a0), .val (.int (0 : Int32)), .val (.int (1 : Int32)), .val (.int y0)] [(.ref a0)])) _
      refine XS.iloadN X0.here hx rfl (hb hby d1_14) rfl ?_
      show Steps p.tables e below (s₁.setTop (mkF m 15 #[.val (.ref a0), .val (.int (0 : Int32)), .val (.int (1 : Int32)), .val (.int y0)] [(.int (0 : Int32)), (.ref a0)])) _
      refine XS.aloadN X0.here hx rfl (hb hby d1_15) rfl rfl ?_
      show Steps p.tables e below (s₁.setTop (mkF m 16 #[.val (.ref a0), .val (.int (0 : Int32)), .val (.int (1 : Int32)), .val (.int y0)] [(.ref a0), (.int (0 : Int32)), (.ref a0)])) _
      refine XS.iloadN X0.here hx rfl (hb hby d1_16) rfl ?_
      show Steps p.tables e below (s₁.setTop (mkF m 17 #[.val (.ref a0), .val (.int (0 : Int32)), .val (.int (1 : Int32)), .val (.int y0)] [(.int (1 : Int32)), (.ref a0), (.int (0 : Int32)), (.ref a0)])) _
      exact kt
    obtain ⟨cl10, Ar10, qq10, S10, M10, H10, GG10⟩ := id V0
    have hin10 : ¬ ((1 : Int32) < 0 ∨ cl10.slots.size ≤ ((1 : Int32)).toNatClampNeg) := inb_of S10 ⟨by decide, by decide⟩
    have hat10 : cl10.slots[((1 : Int32)).toNatClampNeg]? = some (.int y1) := Has.at H10 hin10 rfl
    have K11 : ∀ t, Steps p.tables e below (s₁.setTop (mkF m 18 #[.val (.ref a0), .val (.int (0 : Int32)), .val (.int (1 : Int32)), .val (.int y0)] [(.int y1), (.int (0 : Int32)), (.ref a0)])) t → Steps p.tables e below G0 t := by
      intro t kt
      refine K9 t ?_
      refine X0.iaload hx (j := (1 : Int32)) (v := (.int y1)) (by rw [e0]; exact (Ar10).1) (State.isArrayOf_alike hZ.alike (Ar10).2.1) (Ar10).2.2 hin10 hat10 (g := (mkF m 17 #[.val (.ref a0), .val (.int (0 : Int32)), .val (.int (1 : Int32)), .val (.int y0)] [(.int (1 : Int32)), (.ref a0), (.int (0 : Int32)), (.ref a0)])) rfl rfl (hb hby d1_17) _ ?_
      show Steps p.tables e below (s₁.setTop (mkF m 18 #[.val (.ref a0), .val (.int (0 : Int32)), .val (.int (1 : Int32)), .val (.int y0)] [(.int y1), (.int (0 : Int32)), (.ref a0)])) _
      exact kt
    obtain ⟨cl12, Ar12, qq12, S12, M12, H12, GG12⟩ := id V0
    have hin12 : ¬ ((0 : Int32) < 0 ∨ cl12.slots.size ≤ ((0 : Int32)).toNatClampNeg) := inb_of S12 ⟨by decide, by decide⟩
    obtain ⟨T13, h13, X13, e13, W13, st13⟩ := stI X0 hx hZ e0 Ar12 (j := (0 : Int32)) hin12 (g := (mkF m 18 #[.val (.ref a0), .val (.int (0 : Int32)), .val (.int (1 : Int32)), .val (.int y0)] [(.int y1), (.int (0 : Int32)), (.ref a0)])) rfl rfl (hb hby d1_18)
    have K13 : ∀ t, Steps p.tables e below (T13.setTop (mkF m 19 #[.val (.ref a0), .val (.int (0 : Int32)), .val (.int (1 : Int32)), .val (.int y0)] [])) t → Steps p.tables e below G0 t := fun t kt => K11 t (st13 _ kt)
    have Z13 : n0 ≤ h13.size := Nat.le_trans Z0 (Keep.of_wr W13).1
    have VL13 : Arv Z h13 a0 ka .int (4 : Int32) [(.int y1), (.int y1), (.int y2), (.int y3)] (.int (0 : Int32)) := Arv.set Ar12 qq12 S12 M12 H12 GG12 rfl W13 0 rfl (Nat.le_of_ble_eq_true rfl)
    have N13 := Fr.snoc X13 N0 gn
    have K14 : ∀ t, Steps p.tables e below (T13.setTop (mkF m 22 #[.val (.ref a0), .val (.int (0 : Int32)), .val (.int (1 : Int32)), .val (.int y0)] [(.int y0), (.int (1 : Int32)), (.ref a0)])) t → Steps p.tables e below G0 t := by
      intro t kt
      refine K13 t ?_
      refine XS.aloadN X13.here hx rfl (hb hby d1_19) rfl rfl ?_
      show Steps p.tables e below (T13.setTop (mkF m 20 #[.val (.ref a0), .val (.int (0 : Int32)), .val (.int (1 : Int32)), .val (.int y0)] [(.ref a0)])) _
      refine XS.iloadN X13.here hx rfl (hb hby d1_20) rfl ?_
      show Steps p.tables e below (T13.setTop (mkF m 21 #[.val (.ref a0), .val (.int (0 : Int32)), .val (.int (1 : Int32)), .val (.int y0)] [(.int (1 : Int32)), (.ref a0)])) _
      refine XS.iloadN X13.here hx rfl (hb hby d1_21) rfl ?_
      show Steps p.tables e below (T13.setTop (mkF m 22 #[.val (.ref a0), .val (.int (0 : Int32)), .val (.int (1 : Int32)), .val (.int y0)] [(.int y0), (.int (1 : Int32)), (.ref a0)])) _
      exact kt
    obtain ⟨cl15, Ar15, qq15, S15, M15, H15, GG15⟩ := id VL13
    have hin15 : ¬ ((1 : Int32) < 0 ∨ cl15.slots.size ≤ ((1 : Int32)).toNatClampNeg) := inb_of S15 ⟨by decide, by decide⟩
    obtain ⟨T16, h16, X16, e16, W16, st16⟩ := stI X13 hx hZ e13 Ar15 (j := (1 : Int32)) hin15 (g := (mkF m 22 #[.val (.ref a0), .val (.int (0 : Int32)), .val (.int (1 : Int32)), .val (.int y0)] [(.int y0), (.int (1 : Int32)), (.ref a0)])) rfl rfl (hb hby d1_22)
    have K16 : ∀ t, Steps p.tables e below (T16.setTop (mkF m 23 #[.val (.ref a0), .val (.int (0 : Int32)), .val (.int (1 : Int32)), .val (.int y0)] [])) t → Steps p.tables e below G0 t := fun t kt => K14 t (st16 _ kt)
    have Z16 : n0 ≤ h16.size := Nat.le_trans Z13 (Keep.of_wr W16).1
    have VL16 : Arv Z h16 a0 ka .int (4 : Int32) [(.int y1), (.int y0), (.int y2), (.int y3)] (.int (0 : Int32)) := Arv.set Ar15 qq15 S15 M15 H15 GG15 rfl W16 1 rfl (Nat.le_of_ble_eq_true rfl)
    have N16 := Fr.snoc X16 N13 gn
    obtain ⟨fs, hr, hrun, hended, hW, hsame⟩ := X16.leave (v := none) (fun _ => rfl)
    refine ⟨_, _, ?_, hrun, hended, _, _, rfl, ?_, ⟨_, rfl⟩, hW, hsame.mono (by decide) (by decide)⟩
    · rw [← hG0]
      refine K16 _ ?_
      exact X16.returnOut hx Bd.returns (hb hby d1_23) hr
    · show Q1_01 Z a0 ka y0 y1 y2 y3 h0 n0 _ T16.heap _
      rw [e16]
      exact ⟨rfl, N16, ((Keep.refl h0 [a0]).wr W13 (Or.inl (List.mem_of_getElem? (i := 0) rfl))).wr W16 (Or.inl (List.mem_of_getElem? (i := 0) rfl)), by rw [own_lo, own_hi, if_pos hc6, if_pos hc6]; exact VL16⟩
  ·
    have K17 : ∀ t, Steps p.tables e below (s₁.setTop (mkF m 23 #[.val (.ref a0), .val (.int (0 : Int32)), .val (.int (1 : Int32)), .unset] [])) t → Steps p.tables e below G0 t := by
      intro t kt
      refine K5 t ?_
      refine XS.icmpYes X0.here hx rfl (pc0 := 6) (pc' := 23) rfl (hb hby d1_6) rfl (flt hc6).2.2.2 (by decide) (by decide) ?_
      show Steps p.tables e below (s₁.setTop (mkF m 23 #[.val (.ref a0), .val (.int (0 : Int32)), .val (.int (1 : Int32)), .unset] [])) _
      exact kt
    obtain ⟨fs, hr, hrun, hended, hW, hsame⟩ := X0.leave (v := none) (fun _ => rfl)
    refine ⟨_, _, ?_, hrun, hended, _, _, rfl, ?_, ⟨_, rfl⟩, hW, hsame.mono (by decide) (by decide)⟩
    · rw [← hG0]
      refine K17 _ ?_
      exact X0.returnOut hx Bd.returns (hb hby d1_23) hr
    · show Q1_01 Z a0 ka y0 y1 y2 y3 h0 n0 _ s₁.heap _
      rw [e0]
      exact ⟨rfl, N0, Keep.refl h0 [a0], by rw [own_lo, own_hi, if_neg hc6, if_neg hc6]; exact V0⟩
theorem ef_rm1_23 (m : MethodId) (a0 : Addr) : entryFrame m #[(.ref a0), (.int (2 : Int32)), (.int (3 : Int32))] 4 = (mkF m 0 #[.val (.ref a0), .val (.int (2 : Int32)), .val (.int (3 : Int32)), .unset] []) := by first | (simp [entryFrame, mkF, argsToLocals, Value.category]; done) | rfl
def Q1_23 (Z : State) (a0 : Addr) (ka : ClassId) (y0 : Int32) (y1 : Int32) (y2 : Int32) (y3 : Int32) (h0 : Heap) (n0 : Nat) (v : Option Value) (h : Heap) (L : List Loc) : Prop := v = none ∧ Fr n0 L ∧ Keep h0 h [a0] ∧ Arv Z h a0 ka .int (4 : Int32) [(.int y0), (.int y1), (.int (own_lo y2 y3)), (.int (own_hi y2 y3))] (.int (0 : Int32))
set_option maxRecDepth 65536 in
set_option maxHeartbeats 40000000 in
theorem rm1_23 (l : Launch) (Z : State) (aa : Array Value) (hw : ∀ d ∈ tables_1, d.before aa Z = true) (ws : List Jvm.Cond) (a0 : Addr) (ka : ClassId) (y0 : Int32) (y1 : Int32) (y2 : Int32) (y3 : Int32) (h0 : Heap) (n0 : Nat) (Z0 : n0 ≤ h0.size) (gn : n0 ≤ a0) (V0 : Arv Z h0 a0 ka .int (4 : Int32) [(.int y0), (.int y1), (.int y2), (.int y3)] (.int (0 : Int32))) :
    MetFree l (⟨"com/example/lichen/lichen/analysis/RunsCountUpToPinLaw", "order", "([III)V"⟩ : MethodName) (head1 (Jvm.Cond.code (⟨"com/example/lichen/lichen/analysis/RunsCountUpToPinLaw", "order", "([III)V"⟩ : MethodName) method_3_code 4 none :: ws) ({ frames := 0, cells := 0, slots := 0, locals := 0 } : Room)) (fun a U => a = #[(.ref a0), (.int (2 : Int32)), (.int (3 : Int32))] ∧ Z.Warmed39 U.vm ∧ U.heap = h0) (fun _ _ _ _ _ => True) (fun _ U o U' => ∃ v L, o = .returned v ∧ Q1_23 Z a0 ka y0 y1 y2 y3 h0 n0 v U'.heap L ∧ FrameEnd U o U' L ({ frames := 0, cells := 0, slots := 0, locals := 0 } : Room).cells ({ frames := 0, cells := 0, slots := 0, locals := 0 } : Room).slots) := by
  refine MetFree.of_bodySF (plainFor_of_name pn_com_example_lichen_lichen_analysis_RunsCountUpToPinLaw) hisR ?_
  intro p e s m args below meth c s₁ Bd hml0 hP hK
  obtain ⟨rfl, hZ, hh⟩ := hP
  have hx := Bd.exec
  have hby := Bd.bytes
  have hml : c.maxLocals = 4 := hml0
  have hown : s.vm.findClass "com/example/lichen/lichen/analysis/RunsCountUpToPinLaw" = some m.cls := findClass_of_methodNamed Bd.named
  have hnm := (name_of_methodNamed Bd.named Bd.method).1
  have X0 : Stand p l e ({ frames := 0, cells := 0, slots := 0, locals := 0 } : Room) s m #[(.ref a0), (.int (2 : Int32)), (.int (3 : Int32))] below meth c s₁ [] 0 0 := Stand.of_body Bd
  have e0 : s₁.heap = h0 := by rw [← hh, Bd.state]; rfl
  have N0 := Fr.nil n0
  obtain ⟨G0, hG0⟩ : ∃ G, G = s₁.setTop (entryFrame m #[(.ref a0), (.int (2 : Int32)), (.int (3 : Int32))] 4) := ⟨_, rfl⟩
  have K0 : ∀ t, Steps p.tables e below (s₁.setTop (mkF m 0 #[.val (.ref a0), .val (.int (2 : Int32)), .val (.int (3 : Int32)), .unset] [])) t → Steps p.tables e below G0 t := fun t k => by rw [hG0]; exact castTop (ef_rm1_23 m a0) k
  have K1 : ∀ t, Steps p.tables e below (s₁.setTop (mkF m 2 #[.val (.ref a0), .val (.int (2 : Int32)), .val (.int (3 : Int32)), .unset] [(.int (2 : Int32)), (.ref a0)])) t → Steps p.tables e below G0 t := by
    intro t kt
    refine K0 t ?_
    refine XS.aloadN X0.here hx rfl (hb hby d1_0) rfl rfl ?_
    show Steps p.tables e below (s₁.setTop (mkF m 1 #[.val (.ref a0), .val (.int (2 : Int32)), .val (.int (3 : Int32)), .unset] [(.ref a0)])) _
    refine XS.iloadN X0.here hx rfl (hb hby d1_1) rfl ?_
    show Steps p.tables e below (s₁.setTop (mkF m 2 #[.val (.ref a0), .val (.int (2 : Int32)), .val (.int (3 : Int32)), .unset] [(.int (2 : Int32)), (.ref a0)])) _
    exact kt
  obtain ⟨cl2, Ar2, qq2, S2, M2, H2, GG2⟩ := id V0
  have hin2 : ¬ ((2 : Int32) < 0 ∨ cl2.slots.size ≤ ((2 : Int32)).toNatClampNeg) := inb_of S2 ⟨by decide, by decide⟩
  have hat2 : cl2.slots[((2 : Int32)).toNatClampNeg]? = some (.int y2) := Has.at H2 hin2 rfl
  have K3 : ∀ t, Steps p.tables e below (s₁.setTop (mkF m 5 #[.val (.ref a0), .val (.int (2 : Int32)), .val (.int (3 : Int32)), .unset] [(.int (3 : Int32)), (.ref a0), (.int y2)])) t → Steps p.tables e below G0 t := by
    intro t kt
    refine K1 t ?_
    refine X0.iaload hx (j := (2 : Int32)) (v := (.int y2)) (by rw [e0]; exact (Ar2).1) (State.isArrayOf_alike hZ.alike (Ar2).2.1) (Ar2).2.2 hin2 hat2 (g := (mkF m 2 #[.val (.ref a0), .val (.int (2 : Int32)), .val (.int (3 : Int32)), .unset] [(.int (2 : Int32)), (.ref a0)])) rfl rfl (hb hby d1_2) _ ?_
    show Steps p.tables e below (s₁.setTop (mkF m 3 #[.val (.ref a0), .val (.int (2 : Int32)), .val (.int (3 : Int32)), .unset] [(.int y2)])) _
    refine XS.aloadN X0.here hx rfl (hb hby d1_3) rfl rfl ?_
    show Steps p.tables e below (s₁.setTop (mkF m 4 #[.val (.ref a0), .val (.int (2 : Int32)), .val (.int (3 : Int32)), .unset] [(.ref a0), (.int y2)])) _
    refine XS.iloadN X0.here hx rfl (hb hby d1_4) rfl ?_
    show Steps p.tables e below (s₁.setTop (mkF m 5 #[.val (.ref a0), .val (.int (2 : Int32)), .val (.int (3 : Int32)), .unset] [(.int (3 : Int32)), (.ref a0), (.int y2)])) _
    exact kt
  obtain ⟨cl4, Ar4, qq4, S4, M4, H4, GG4⟩ := id V0
  have hin4 : ¬ ((3 : Int32) < 0 ∨ cl4.slots.size ≤ ((3 : Int32)).toNatClampNeg) := inb_of S4 ⟨by decide, by decide⟩
  have hat4 : cl4.slots[((3 : Int32)).toNatClampNeg]? = some (.int y3) := Has.at H4 hin4 rfl
  have K5 : ∀ t, Steps p.tables e below (s₁.setTop (mkF m 6 #[.val (.ref a0), .val (.int (2 : Int32)), .val (.int (3 : Int32)), .unset] [(.int y3), (.int y2)])) t → Steps p.tables e below G0 t := by
    intro t kt
    refine K3 t ?_
    refine X0.iaload hx (j := (3 : Int32)) (v := (.int y3)) (by rw [e0]; exact (Ar4).1) (State.isArrayOf_alike hZ.alike (Ar4).2.1) (Ar4).2.2 hin4 hat4 (g := (mkF m 5 #[.val (.ref a0), .val (.int (2 : Int32)), .val (.int (3 : Int32)), .unset] [(.int (3 : Int32)), (.ref a0), (.int y2)])) rfl rfl (hb hby d1_5) _ ?_
    show Steps p.tables e below (s₁.setTop (mkF m 6 #[.val (.ref a0), .val (.int (2 : Int32)), .val (.int (3 : Int32)), .unset] [(.int y3), (.int y2)])) _
    exact kt
  by_cases hc6 : y3 < y2
  ·
    have K7 : ∀ t, Steps p.tables e below (s₁.setTop (mkF m 11 #[.val (.ref a0), .val (.int (2 : Int32)), .val (.int (3 : Int32)), .unset] [(.int (2 : Int32)), (.ref a0)])) t → Steps p.tables e below G0 t := by
      intro t kt
      refine K5 t ?_
      refine XS.icmpNo X0.here hx rfl (hb hby d1_6) rfl (tlt hc6).2.2.2 ?_
      show Steps p.tables e below (s₁.setTop (mkF m 9 #[.val (.ref a0), .val (.int (2 : Int32)), .val (.int (3 : Int32)), .unset] [])) _
      refine XS.aloadN X0.here hx rfl (hb hby d1_9) rfl rfl ?_
      show Steps p.tables e below (s₁.setTop (mkF m 10 #[.val (.ref a0), .val (.int (2 : Int32)), .val (.int (3 : Int32)), .unset] [(.ref a0)])) _
      refine XS.iloadN X0.here hx rfl (hb hby d1_10) rfl ?_
      show Steps p.tables e below (s₁.setTop (mkF m 11 #[.val (.ref a0), .val (.int (2 : Int32)), .val (.int (3 : Int32)), .unset] [(.int (2 : Int32)), (.ref a0)])) _
      exact kt
    obtain ⟨cl8, Ar8, qq8, S8, M8, H8, GG8⟩ := id V0
    have hin8 : ¬ ((2 : Int32) < 0 ∨ cl8.slots.size ≤ ((2 : Int32)).toNatClampNeg) := inb_of S8 ⟨by decide, by decide⟩
    have hat8 : cl8.slots[((2 : Int32)).toNatClampNeg]? = some (.int y2) := Has.at H8 hin8 rfl
    have K9 : ∀ t, Steps p.tables e below (s₁.setTop (mkF m 17 #[.val (.ref a0), .val (.int (2 : Int32)), .val (.int (3 : Int32)), .val (.int y2)] [(.int (3 : Int32)), (.ref a0), (.int (2 : Int32)), (.ref a0)])) t → Steps p.tables e below G0 t := by
      intro t kt
      refine K7 t ?_
      refine X0.iaload hx (j := (2 : Int32)) (v := (.int y2)) (by rw [e0]; exact (Ar8).1) (State.isArrayOf_alike hZ.alike (Ar8).2.1) (Ar8).2.2 hin8 hat8 (g := (mkF m 11 #[.val (.ref a0), .val (.int (2 : Int32)), .val (.int (3 : Int32)), .unset] [(.int (2 : Int32)), (.ref a0)])) rfl rfl (hb hby d1_11) _ ?_
      show Steps p.tables e below (s₁.setTop (mkF m 12 #[.val (.ref a0), .val (.int (2 : Int32)), .val (.int (3 : Int32)), .unset] [(.int y2)])) _
      refine XS.istoreN X0.here hx rfl (hb hby d1_12) rfl (l' := #[.val (.ref a0), .val (.int (2 : Int32)), .val (.int (3 : Int32)), .val (.int y2)]) rfl ?_
      show Steps p.tables e below (s₁.setTop (mkF m 13 #[.val (.ref a0), .val (.int (2 : Int32)), .val (.int (3 : Int32)), .val (.int y2)] [])) _
      refine XS.aloadN X0.here hx rfl (hb hby d1_13) rfl rfl ?_
      show Steps p.tables e below (s₁.setTop (mkF m 14 #[.val (.ref a0), .val (.int (2 : Int32)), .val (.int (3 : Int32)), .val (.int y2)] [(.ref a0)])) _
      refine XS.iloadN X0.here hx rfl (hb hby d1_14) rfl ?_
      show Steps p.tables e below (s₁.setTop (mkF m 15 #[.val (.ref a0), .val (.int (2 : Int32)), .val (.int (3 : Int32)), .val (.int y2)] [(.int (2 : Int32)), (.ref a0)])) _
      refine XS.aloadN X0.here hx rfl (hb hby d1_15) rfl rfl ?_
      show Steps p.tables e below (s₁.setTop (mkF m 16 #[.val (.ref a0), .val (.int (2 : Int32)), .val (.int (3 : Int32)), .val (.int y2)] [(.ref a0), (.int (2 : Int32)), (.ref a0)])) _
      refine XS.iloadN X0.here hx rfl (hb hby d1_16) rfl ?_
      show Steps p.tables e below (s₁.setTop (mkF m 17 #[.val (.ref a0), .val (.int (2 : Int32)), .val (.int (3 : Int32)), .val (.int y2)] [(.int (3 : Int32)), (.ref a0), (.int (2 : Int32)), (.ref a0)])) _
      exact kt
    obtain ⟨cl10, Ar10, qq10, S10, M10, H10, GG10⟩ := id V0
    have hin10 : ¬ ((3 : Int32) < 0 ∨ cl10.slots.size ≤ ((3 : Int32)).toNatClampNeg) := inb_of S10 ⟨by decide, by decide⟩
    have hat10 : cl10.slots[((3 : Int32)).toNatClampNeg]? = some (.int y3) := Has.at H10 hin10 rfl
    have K11 : ∀ t, Steps p.tables e below (s₁.setTop (mkF m 18 #[.val (.ref a0), .val (.int (2 : Int32)), .val (.int (3 : Int32)), .val (.int y2)] [(.int y3), (.int (2 : Int32)), (.ref a0)])) t → Steps p.tables e below G0 t := by
      intro t kt
      refine K9 t ?_
      refine X0.iaload hx (j := (3 : Int32)) (v := (.int y3)) (by rw [e0]; exact (Ar10).1) (State.isArrayOf_alike hZ.alike (Ar10).2.1) (Ar10).2.2 hin10 hat10 (g := (mkF m 17 #[.val (.ref a0), .val (.int (2 : Int32)), .val (.int (3 : Int32)), .val (.int y2)] [(.int (3 : Int32)), (.ref a0), (.int (2 : Int32)), (.ref a0)])) rfl rfl (hb hby d1_17) _ ?_
      show Steps p.tables e below (s₁.setTop (mkF m 18 #[.val (.ref a0), .val (.int (2 : Int32)), .val (.int (3 : Int32)), .val (.int y2)] [(.int y3), (.int (2 : Int32)), (.ref a0)])) _
      exact kt
    obtain ⟨cl12, Ar12, qq12, S12, M12, H12, GG12⟩ := id V0
    have hin12 : ¬ ((2 : Int32) < 0 ∨ cl12.slots.size ≤ ((2 : Int32)).toNatClampNeg) := inb_of S12 ⟨by decide, by decide⟩
    obtain ⟨T13, h13, X13, e13, W13, st13⟩ := stI X0 hx hZ e0 Ar12 (j := (2 : Int32)) hin12 (g := (mkF m 18 #[.val (.ref a0), .val (.int (2 : Int32)), .val (.int (3 : Int32)), .val (.int y2)] [(.int y3), (.int (2 : Int32)), (.ref a0)])) rfl rfl (hb hby d1_18)
    have K13 : ∀ t, Steps p.tables e below (T13.setTop (mkF m 19 #[.val (.ref a0), .val (.int (2 : Int32)), .val (.int (3 : Int32)), .val (.int y2)] [])) t → Steps p.tables e below G0 t := fun t kt => K11 t (st13 _ kt)
    have Z13 : n0 ≤ h13.size := Nat.le_trans Z0 (Keep.of_wr W13).1
    have VL13 : Arv Z h13 a0 ka .int (4 : Int32) [(.int y0), (.int y1), (.int y3), (.int y3)] (.int (0 : Int32)) := Arv.set Ar12 qq12 S12 M12 H12 GG12 rfl W13 2 rfl (Nat.le_of_ble_eq_true rfl)
    have N13 := Fr.snoc X13 N0 gn
    have K14 : ∀ t, Steps p.tables e below (T13.setTop (mkF m 22 #[.val (.ref a0), .val (.int (2 : Int32)), .val (.int (3 : Int32)), .val (.int y2)] [(.int y2), (.int (3 : Int32)), (.ref a0)])) t → Steps p.tables e below G0 t := by
      intro t kt
      refine K13 t ?_
      refine XS.aloadN X13.here hx rfl (hb hby d1_19) rfl rfl ?_
      show Steps p.tables e below (T13.setTop (mkF m 20 #[.val (.ref a0), .val (.int (2 : Int32)), .val (.int (3 : Int32)), .val (.int y2)] [(.ref a0)])) _
      refine XS.iloadN X13.here hx rfl (hb hby d1_20) rfl ?_
      show Steps p.tables e below (T13.setTop (mkF m 21 #[.val (.ref a0), .val (.int (2 : Int32)), .val (.int (3 : Int32)), .val (.int y2)] [(.int (3 : Int32)), (.ref a0)])) _
      refine XS.iloadN X13.here hx rfl (hb hby d1_21) rfl ?_
      show Steps p.tables e below (T13.setTop (mkF m 22 #[.val (.ref a0), .val (.int (2 : Int32)), .val (.int (3 : Int32)), .val (.int y2)] [(.int y2), (.int (3 : Int32)), (.ref a0)])) _
      exact kt
    obtain ⟨cl15, Ar15, qq15, S15, M15, H15, GG15⟩ := id VL13
    have hin15 : ¬ ((3 : Int32) < 0 ∨ cl15.slots.size ≤ ((3 : Int32)).toNatClampNeg) := inb_of S15 ⟨by decide, by decide⟩
    obtain ⟨T16, h16, X16, e16, W16, st16⟩ := stI X13 hx hZ e13 Ar15 (j := (3 : Int32)) hin15 (g := (mkF m 22 #[.val (.ref a0), .val (.int (2 : Int32)), .val (.int (3 : Int32)), .val (.int y2)] [(.int y2), (.int (3 : Int32)), (.ref a0)])) rfl rfl (hb hby d1_22)
    have K16 : ∀ t, Steps p.tables e below (T16.setTop (mkF m 23 #[.val (.ref a0), .val (.int (2 : Int32)), .val (.int (3 : Int32)), .val (.int y2)] [])) t → Steps p.tables e below G0 t := fun t kt => K14 t (st16 _ kt)
    have Z16 : n0 ≤ h16.size := Nat.le_trans Z13 (Keep.of_wr W16).1
    have VL16 : Arv Z h16 a0 ka .int (4 : Int32) [(.int y0), (.int y1), (.int y3), (.int y2)] (.int (0 : Int32)) := Arv.set Ar15 qq15 S15 M15 H15 GG15 rfl W16 3 rfl (Nat.le_of_ble_eq_true rfl)
    have N16 := Fr.snoc X16 N13 gn
    obtain ⟨fs, hr, hrun, hended, hW, hsame⟩ := X16.leave (v := none) (fun _ => rfl)
    refine ⟨_, _, ?_, hrun, hended, _, _, rfl, ?_, ⟨_, rfl⟩, hW, hsame.mono (by decide) (by decide)⟩
    · rw [← hG0]
      refine K16 _ ?_
      exact X16.returnOut hx Bd.returns (hb hby d1_23) hr
    · show Q1_23 Z a0 ka y0 y1 y2 y3 h0 n0 _ T16.heap _
      rw [e16]
      exact ⟨rfl, N16, ((Keep.refl h0 [a0]).wr W13 (Or.inl (List.mem_of_getElem? (i := 0) rfl))).wr W16 (Or.inl (List.mem_of_getElem? (i := 0) rfl)), by rw [own_lo, own_hi, if_pos hc6, if_pos hc6]; exact VL16⟩
  ·
    have K17 : ∀ t, Steps p.tables e below (s₁.setTop (mkF m 23 #[.val (.ref a0), .val (.int (2 : Int32)), .val (.int (3 : Int32)), .unset] [])) t → Steps p.tables e below G0 t := by
      intro t kt
      refine K5 t ?_
      refine XS.icmpYes X0.here hx rfl (pc0 := 6) (pc' := 23) rfl (hb hby d1_6) rfl (flt hc6).2.2.2 (by decide) (by decide) ?_
      show Steps p.tables e below (s₁.setTop (mkF m 23 #[.val (.ref a0), .val (.int (2 : Int32)), .val (.int (3 : Int32)), .unset] [])) _
      exact kt
    obtain ⟨fs, hr, hrun, hended, hW, hsame⟩ := X0.leave (v := none) (fun _ => rfl)
    refine ⟨_, _, ?_, hrun, hended, _, _, rfl, ?_, ⟨_, rfl⟩, hW, hsame.mono (by decide) (by decide)⟩
    · rw [← hG0]
      refine K17 _ ?_
      exact X0.returnOut hx Bd.returns (hb hby d1_23) hr
    · show Q1_23 Z a0 ka y0 y1 y2 y3 h0 n0 _ s₁.heap _
      rw [e0]
      exact ⟨rfl, N0, Keep.refl h0 [a0], by rw [own_lo, own_hi, if_neg hc6, if_neg hc6]; exact V0⟩
theorem ef_rm1_02 (m : MethodId) (a0 : Addr) : entryFrame m #[(.ref a0), (.int (0 : Int32)), (.int (2 : Int32))] 4 = (mkF m 0 #[.val (.ref a0), .val (.int (0 : Int32)), .val (.int (2 : Int32)), .unset] []) := by first | (simp [entryFrame, mkF, argsToLocals, Value.category]; done) | rfl
def Q1_02 (Z : State) (a0 : Addr) (ka : ClassId) (y0 : Int32) (y1 : Int32) (y2 : Int32) (y3 : Int32) (h0 : Heap) (n0 : Nat) (v : Option Value) (h : Heap) (L : List Loc) : Prop := v = none ∧ Fr n0 L ∧ Keep h0 h [a0] ∧ Arv Z h a0 ka .int (4 : Int32) [(.int (own_lo y0 y2)), (.int y1), (.int (own_hi y0 y2)), (.int y3)] (.int (0 : Int32))
set_option maxRecDepth 65536 in
set_option maxHeartbeats 40000000 in
theorem rm1_02 (l : Launch) (Z : State) (aa : Array Value) (hw : ∀ d ∈ tables_1, d.before aa Z = true) (ws : List Jvm.Cond) (a0 : Addr) (ka : ClassId) (y0 : Int32) (y1 : Int32) (y2 : Int32) (y3 : Int32) (h0 : Heap) (n0 : Nat) (Z0 : n0 ≤ h0.size) (gn : n0 ≤ a0) (V0 : Arv Z h0 a0 ka .int (4 : Int32) [(.int y0), (.int y1), (.int y2), (.int y3)] (.int (0 : Int32))) :
    MetFree l (⟨"com/example/lichen/lichen/analysis/RunsCountUpToPinLaw", "order", "([III)V"⟩ : MethodName) (head1 (Jvm.Cond.code (⟨"com/example/lichen/lichen/analysis/RunsCountUpToPinLaw", "order", "([III)V"⟩ : MethodName) method_3_code 4 none :: ws) ({ frames := 0, cells := 0, slots := 0, locals := 0 } : Room)) (fun a U => a = #[(.ref a0), (.int (0 : Int32)), (.int (2 : Int32))] ∧ Z.Warmed39 U.vm ∧ U.heap = h0) (fun _ _ _ _ _ => True) (fun _ U o U' => ∃ v L, o = .returned v ∧ Q1_02 Z a0 ka y0 y1 y2 y3 h0 n0 v U'.heap L ∧ FrameEnd U o U' L ({ frames := 0, cells := 0, slots := 0, locals := 0 } : Room).cells ({ frames := 0, cells := 0, slots := 0, locals := 0 } : Room).slots) := by
  refine MetFree.of_bodySF (plainFor_of_name pn_com_example_lichen_lichen_analysis_RunsCountUpToPinLaw) hisR ?_
  intro p e s m args below meth c s₁ Bd hml0 hP hK
  obtain ⟨rfl, hZ, hh⟩ := hP
  have hx := Bd.exec
  have hby := Bd.bytes
  have hml : c.maxLocals = 4 := hml0
  have hown : s.vm.findClass "com/example/lichen/lichen/analysis/RunsCountUpToPinLaw" = some m.cls := findClass_of_methodNamed Bd.named
  have hnm := (name_of_methodNamed Bd.named Bd.method).1
  have X0 : Stand p l e ({ frames := 0, cells := 0, slots := 0, locals := 0 } : Room) s m #[(.ref a0), (.int (0 : Int32)), (.int (2 : Int32))] below meth c s₁ [] 0 0 := Stand.of_body Bd
  have e0 : s₁.heap = h0 := by rw [← hh, Bd.state]; rfl
  have N0 := Fr.nil n0
  obtain ⟨G0, hG0⟩ : ∃ G, G = s₁.setTop (entryFrame m #[(.ref a0), (.int (0 : Int32)), (.int (2 : Int32))] 4) := ⟨_, rfl⟩
  have K0 : ∀ t, Steps p.tables e below (s₁.setTop (mkF m 0 #[.val (.ref a0), .val (.int (0 : Int32)), .val (.int (2 : Int32)), .unset] [])) t → Steps p.tables e below G0 t := fun t k => by rw [hG0]; exact castTop (ef_rm1_02 m a0) k
  have K1 : ∀ t, Steps p.tables e below (s₁.setTop (mkF m 2 #[.val (.ref a0), .val (.int (0 : Int32)), .val (.int (2 : Int32)), .unset] [(.int (0 : Int32)), (.ref a0)])) t → Steps p.tables e below G0 t := by
    intro t kt
    refine K0 t ?_
    refine XS.aloadN X0.here hx rfl (hb hby d1_0) rfl rfl ?_
    show Steps p.tables e below (s₁.setTop (mkF m 1 #[.val (.ref a0), .val (.int (0 : Int32)), .val (.int (2 : Int32)), .unset] [(.ref a0)])) _
    refine XS.iloadN X0.here hx rfl (hb hby d1_1) rfl ?_
    show Steps p.tables e below (s₁.setTop (mkF m 2 #[.val (.ref a0), .val (.int (0 : Int32)), .val (.int (2 : Int32)), .unset] [(.int (0 : Int32)), (.ref a0)])) _
    exact kt
  obtain ⟨cl2, Ar2, qq2, S2, M2, H2, GG2⟩ := id V0
  have hin2 : ¬ ((0 : Int32) < 0 ∨ cl2.slots.size ≤ ((0 : Int32)).toNatClampNeg) := inb_of S2 ⟨by decide, by decide⟩
  have hat2 : cl2.slots[((0 : Int32)).toNatClampNeg]? = some (.int y0) := Has.at H2 hin2 rfl
  have K3 : ∀ t, Steps p.tables e below (s₁.setTop (mkF m 5 #[.val (.ref a0), .val (.int (0 : Int32)), .val (.int (2 : Int32)), .unset] [(.int (2 : Int32)), (.ref a0), (.int y0)])) t → Steps p.tables e below G0 t := by
    intro t kt
    refine K1 t ?_
    refine X0.iaload hx (j := (0 : Int32)) (v := (.int y0)) (by rw [e0]; exact (Ar2).1) (State.isArrayOf_alike hZ.alike (Ar2).2.1) (Ar2).2.2 hin2 hat2 (g := (mkF m 2 #[.val (.ref a0), .val (.int (0 : Int32)), .val (.int (2 : Int32)), .unset] [(.int (0 : Int32)), (.ref a0)])) rfl rfl (hb hby d1_2) _ ?_
    show Steps p.tables e below (s₁.setTop (mkF m 3 #[.val (.ref a0), .val (.int (0 : Int32)), .val (.int (2 : Int32)), .unset] [(.int y0)])) _
    refine XS.aloadN X0.here hx rfl (hb hby d1_3) rfl rfl ?_
    show Steps p.tables e below (s₁.setTop (mkF m 4 #[.val (.ref a0), .val (.int (0 : Int32)), .val (.int (2 : Int32)), .unset] [(.ref a0), (.int y0)])) _
    refine XS.iloadN X0.here hx rfl (hb hby d1_4) rfl ?_
    show Steps p.tables e below (s₁.setTop (mkF m 5 #[.val (.ref a0), .val (.int (0 : Int32)), .val (.int (2 : Int32)), .unset] [(.int (2 : Int32)), (.ref a0), (.int y0)])) _
    exact kt
  obtain ⟨cl4, Ar4, qq4, S4, M4, H4, GG4⟩ := id V0
  have hin4 : ¬ ((2 : Int32) < 0 ∨ cl4.slots.size ≤ ((2 : Int32)).toNatClampNeg) := inb_of S4 ⟨by decide, by decide⟩
  have hat4 : cl4.slots[((2 : Int32)).toNatClampNeg]? = some (.int y2) := Has.at H4 hin4 rfl
  have K5 : ∀ t, Steps p.tables e below (s₁.setTop (mkF m 6 #[.val (.ref a0), .val (.int (0 : Int32)), .val (.int (2 : Int32)), .unset] [(.int y2), (.int y0)])) t → Steps p.tables e below G0 t := by
    intro t kt
    refine K3 t ?_
    refine X0.iaload hx (j := (2 : Int32)) (v := (.int y2)) (by rw [e0]; exact (Ar4).1) (State.isArrayOf_alike hZ.alike (Ar4).2.1) (Ar4).2.2 hin4 hat4 (g := (mkF m 5 #[.val (.ref a0), .val (.int (0 : Int32)), .val (.int (2 : Int32)), .unset] [(.int (2 : Int32)), (.ref a0), (.int y0)])) rfl rfl (hb hby d1_5) _ ?_
    show Steps p.tables e below (s₁.setTop (mkF m 6 #[.val (.ref a0), .val (.int (0 : Int32)), .val (.int (2 : Int32)), .unset] [(.int y2), (.int y0)])) _
    exact kt
  by_cases hc6 : y2 < y0
  ·
    have K7 : ∀ t, Steps p.tables e below (s₁.setTop (mkF m 11 #[.val (.ref a0), .val (.int (0 : Int32)), .val (.int (2 : Int32)), .unset] [(.int (0 : Int32)), (.ref a0)])) t → Steps p.tables e below G0 t := by
      intro t kt
      refine K5 t ?_
      refine XS.icmpNo X0.here hx rfl (hb hby d1_6) rfl (tlt hc6).2.2.2 ?_
      show Steps p.tables e below (s₁.setTop (mkF m 9 #[.val (.ref a0), .val (.int (0 : Int32)), .val (.int (2 : Int32)), .unset] [])) _
      refine XS.aloadN X0.here hx rfl (hb hby d1_9) rfl rfl ?_
      show Steps p.tables e below (s₁.setTop (mkF m 10 #[.val (.ref a0), .val (.int (0 : Int32)), .val (.int (2 : Int32)), .unset] [(.ref a0)])) _
      refine XS.iloadN X0.here hx rfl (hb hby d1_10) rfl ?_
      show Steps p.tables e below (s₁.setTop (mkF m 11 #[.val (.ref a0), .val (.int (0 : Int32)), .val (.int (2 : Int32)), .unset] [(.int (0 : Int32)), (.ref a0)])) _
      exact kt
    obtain ⟨cl8, Ar8, qq8, S8, M8, H8, GG8⟩ := id V0
    have hin8 : ¬ ((0 : Int32) < 0 ∨ cl8.slots.size ≤ ((0 : Int32)).toNatClampNeg) := inb_of S8 ⟨by decide, by decide⟩
    have hat8 : cl8.slots[((0 : Int32)).toNatClampNeg]? = some (.int y0) := Has.at H8 hin8 rfl
    have K9 : ∀ t, Steps p.tables e below (s₁.setTop (mkF m 17 #[.val (.ref a0), .val (.int (0 : Int32)), .val (.int (2 : Int32)), .val (.int y0)] [(.int (2 : Int32)), (.ref a0), (.int (0 : Int32)), (.ref a0)])) t → Steps p.tables e below G0 t := by
      intro t kt
      refine K7 t ?_
      refine X0.iaload hx (j := (0 : Int32)) (v := (.int y0)) (by rw [e0]; exact (Ar8).1) (State.isArrayOf_alike hZ.alike (Ar8).2.1) (Ar8).2.2 hin8 hat8 (g := (mkF m 11 #[.val (.ref a0), .val (.int (0 : Int32)), .val (.int (2 : Int32)), .unset] [(.int (0 : Int32)), (.ref a0)])) rfl rfl (hb hby d1_11) _ ?_
      show Steps p.tables e below (s₁.setTop (mkF m 12 #[.val (.ref a0), .val (.int (0 : Int32)), .val (.int (2 : Int32)), .unset] [(.int y0)])) _
      refine XS.istoreN X0.here hx rfl (hb hby d1_12) rfl (l' := #[.val (.ref a0), .val (.int (0 : Int32)), .val (.int (2 : Int32)), .val (.int y0)]) rfl ?_
      show Steps p.tables e below (s₁.setTop (mkF m 13 #[.val (.ref a0), .val (.int (0 : Int32)), .val (.int (2 : Int32)), .val (.int y0)] [])) _
      refine XS.aloadN X0.here hx rfl (hb hby d1_13) rfl rfl ?_
      show Steps p.tables e below (s₁.setTop (mkF m 14 #[.val (.ref a0), .val (.int (0 : Int32)), .val (.int (2 : Int32)), .val (.int y0)] [(.ref a0)])) _
      refine XS.iloadN X0.here hx rfl (hb hby d1_14) rfl ?_
      show Steps p.tables e below (s₁.setTop (mkF m 15 #[.val (.ref a0), .val (.int (0 : Int32)), .val (.int (2 : Int32)), .val (.int y0)] [(.int (0 : Int32)), (.ref a0)])) _
      refine XS.aloadN X0.here hx rfl (hb hby d1_15) rfl rfl ?_
      show Steps p.tables e below (s₁.setTop (mkF m 16 #[.val (.ref a0), .val (.int (0 : Int32)), .val (.int (2 : Int32)), .val (.int y0)] [(.ref a0), (.int (0 : Int32)), (.ref a0)])) _
      refine XS.iloadN X0.here hx rfl (hb hby d1_16) rfl ?_
      show Steps p.tables e below (s₁.setTop (mkF m 17 #[.val (.ref a0), .val (.int (0 : Int32)), .val (.int (2 : Int32)), .val (.int y0)] [(.int (2 : Int32)), (.ref a0), (.int (0 : Int32)), (.ref a0)])) _
      exact kt
    obtain ⟨cl10, Ar10, qq10, S10, M10, H10, GG10⟩ := id V0
    have hin10 : ¬ ((2 : Int32) < 0 ∨ cl10.slots.size ≤ ((2 : Int32)).toNatClampNeg) := inb_of S10 ⟨by decide, by decide⟩
    have hat10 : cl10.slots[((2 : Int32)).toNatClampNeg]? = some (.int y2) := Has.at H10 hin10 rfl
    have K11 : ∀ t, Steps p.tables e below (s₁.setTop (mkF m 18 #[.val (.ref a0), .val (.int (0 : Int32)), .val (.int (2 : Int32)), .val (.int y0)] [(.int y2), (.int (0 : Int32)), (.ref a0)])) t → Steps p.tables e below G0 t := by
      intro t kt
      refine K9 t ?_
      refine X0.iaload hx (j := (2 : Int32)) (v := (.int y2)) (by rw [e0]; exact (Ar10).1) (State.isArrayOf_alike hZ.alike (Ar10).2.1) (Ar10).2.2 hin10 hat10 (g := (mkF m 17 #[.val (.ref a0), .val (.int (0 : Int32)), .val (.int (2 : Int32)), .val (.int y0)] [(.int (2 : Int32)), (.ref a0), (.int (0 : Int32)), (.ref a0)])) rfl rfl (hb hby d1_17) _ ?_
      show Steps p.tables e below (s₁.setTop (mkF m 18 #[.val (.ref a0), .val (.int (0 : Int32)), .val (.int (2 : Int32)), .val (.int y0)] [(.int y2), (.int (0 : Int32)), (.ref a0)])) _
      exact kt
    obtain ⟨cl12, Ar12, qq12, S12, M12, H12, GG12⟩ := id V0
    have hin12 : ¬ ((0 : Int32) < 0 ∨ cl12.slots.size ≤ ((0 : Int32)).toNatClampNeg) := inb_of S12 ⟨by decide, by decide⟩
    obtain ⟨T13, h13, X13, e13, W13, st13⟩ := stI X0 hx hZ e0 Ar12 (j := (0 : Int32)) hin12 (g := (mkF m 18 #[.val (.ref a0), .val (.int (0 : Int32)), .val (.int (2 : Int32)), .val (.int y0)] [(.int y2), (.int (0 : Int32)), (.ref a0)])) rfl rfl (hb hby d1_18)
    have K13 : ∀ t, Steps p.tables e below (T13.setTop (mkF m 19 #[.val (.ref a0), .val (.int (0 : Int32)), .val (.int (2 : Int32)), .val (.int y0)] [])) t → Steps p.tables e below G0 t := fun t kt => K11 t (st13 _ kt)
    have Z13 : n0 ≤ h13.size := Nat.le_trans Z0 (Keep.of_wr W13).1
    have VL13 : Arv Z h13 a0 ka .int (4 : Int32) [(.int y2), (.int y1), (.int y2), (.int y3)] (.int (0 : Int32)) := Arv.set Ar12 qq12 S12 M12 H12 GG12 rfl W13 0 rfl (Nat.le_of_ble_eq_true rfl)
    have N13 := Fr.snoc X13 N0 gn
    have K14 : ∀ t, Steps p.tables e below (T13.setTop (mkF m 22 #[.val (.ref a0), .val (.int (0 : Int32)), .val (.int (2 : Int32)), .val (.int y0)] [(.int y0), (.int (2 : Int32)), (.ref a0)])) t → Steps p.tables e below G0 t := by
      intro t kt
      refine K13 t ?_
      refine XS.aloadN X13.here hx rfl (hb hby d1_19) rfl rfl ?_
      show Steps p.tables e below (T13.setTop (mkF m 20 #[.val (.ref a0), .val (.int (0 : Int32)), .val (.int (2 : Int32)), .val (.int y0)] [(.ref a0)])) _
      refine XS.iloadN X13.here hx rfl (hb hby d1_20) rfl ?_
      show Steps p.tables e below (T13.setTop (mkF m 21 #[.val (.ref a0), .val (.int (0 : Int32)), .val (.int (2 : Int32)), .val (.int y0)] [(.int (2 : Int32)), (.ref a0)])) _
      refine XS.iloadN X13.here hx rfl (hb hby d1_21) rfl ?_
      show Steps p.tables e below (T13.setTop (mkF m 22 #[.val (.ref a0), .val (.int (0 : Int32)), .val (.int (2 : Int32)), .val (.int y0)] [(.int y0), (.int (2 : Int32)), (.ref a0)])) _
      exact kt
    obtain ⟨cl15, Ar15, qq15, S15, M15, H15, GG15⟩ := id VL13
    have hin15 : ¬ ((2 : Int32) < 0 ∨ cl15.slots.size ≤ ((2 : Int32)).toNatClampNeg) := inb_of S15 ⟨by decide, by decide⟩
    obtain ⟨T16, h16, X16, e16, W16, st16⟩ := stI X13 hx hZ e13 Ar15 (j := (2 : Int32)) hin15 (g := (mkF m 22 #[.val (.ref a0), .val (.int (0 : Int32)), .val (.int (2 : Int32)), .val (.int y0)] [(.int y0), (.int (2 : Int32)), (.ref a0)])) rfl rfl (hb hby d1_22)
    have K16 : ∀ t, Steps p.tables e below (T16.setTop (mkF m 23 #[.val (.ref a0), .val (.int (0 : Int32)), .val (.int (2 : Int32)), .val (.int y0)] [])) t → Steps p.tables e below G0 t := fun t kt => K14 t (st16 _ kt)
    have Z16 : n0 ≤ h16.size := Nat.le_trans Z13 (Keep.of_wr W16).1
    have VL16 : Arv Z h16 a0 ka .int (4 : Int32) [(.int y2), (.int y1), (.int y0), (.int y3)] (.int (0 : Int32)) := Arv.set Ar15 qq15 S15 M15 H15 GG15 rfl W16 2 rfl (Nat.le_of_ble_eq_true rfl)
    have N16 := Fr.snoc X16 N13 gn
    obtain ⟨fs, hr, hrun, hended, hW, hsame⟩ := X16.leave (v := none) (fun _ => rfl)
    refine ⟨_, _, ?_, hrun, hended, _, _, rfl, ?_, ⟨_, rfl⟩, hW, hsame.mono (by decide) (by decide)⟩
    · rw [← hG0]
      refine K16 _ ?_
      exact X16.returnOut hx Bd.returns (hb hby d1_23) hr
    · show Q1_02 Z a0 ka y0 y1 y2 y3 h0 n0 _ T16.heap _
      rw [e16]
      exact ⟨rfl, N16, ((Keep.refl h0 [a0]).wr W13 (Or.inl (List.mem_of_getElem? (i := 0) rfl))).wr W16 (Or.inl (List.mem_of_getElem? (i := 0) rfl)), by rw [own_lo, own_hi, if_pos hc6, if_pos hc6]; exact VL16⟩
  ·
    have K17 : ∀ t, Steps p.tables e below (s₁.setTop (mkF m 23 #[.val (.ref a0), .val (.int (0 : Int32)), .val (.int (2 : Int32)), .unset] [])) t → Steps p.tables e below G0 t := by
      intro t kt
      refine K5 t ?_
      refine XS.icmpYes X0.here hx rfl (pc0 := 6) (pc' := 23) rfl (hb hby d1_6) rfl (flt hc6).2.2.2 (by decide) (by decide) ?_
      show Steps p.tables e below (s₁.setTop (mkF m 23 #[.val (.ref a0), .val (.int (0 : Int32)), .val (.int (2 : Int32)), .unset] [])) _
      exact kt
    obtain ⟨fs, hr, hrun, hended, hW, hsame⟩ := X0.leave (v := none) (fun _ => rfl)
    refine ⟨_, _, ?_, hrun, hended, _, _, rfl, ?_, ⟨_, rfl⟩, hW, hsame.mono (by decide) (by decide)⟩
    · rw [← hG0]
      refine K17 _ ?_
      exact X0.returnOut hx Bd.returns (hb hby d1_23) hr
    · show Q1_02 Z a0 ka y0 y1 y2 y3 h0 n0 _ s₁.heap _
      rw [e0]
      exact ⟨rfl, N0, Keep.refl h0 [a0], by rw [own_lo, own_hi, if_neg hc6, if_neg hc6]; exact V0⟩
theorem ef_rm1_13 (m : MethodId) (a0 : Addr) : entryFrame m #[(.ref a0), (.int (1 : Int32)), (.int (3 : Int32))] 4 = (mkF m 0 #[.val (.ref a0), .val (.int (1 : Int32)), .val (.int (3 : Int32)), .unset] []) := by first | (simp [entryFrame, mkF, argsToLocals, Value.category]; done) | rfl
def Q1_13 (Z : State) (a0 : Addr) (ka : ClassId) (y0 : Int32) (y1 : Int32) (y2 : Int32) (y3 : Int32) (h0 : Heap) (n0 : Nat) (v : Option Value) (h : Heap) (L : List Loc) : Prop := v = none ∧ Fr n0 L ∧ Keep h0 h [a0] ∧ Arv Z h a0 ka .int (4 : Int32) [(.int y0), (.int (own_lo y1 y3)), (.int y2), (.int (own_hi y1 y3))] (.int (0 : Int32))
set_option maxRecDepth 65536 in
set_option maxHeartbeats 40000000 in
theorem rm1_13 (l : Launch) (Z : State) (aa : Array Value) (hw : ∀ d ∈ tables_1, d.before aa Z = true) (ws : List Jvm.Cond) (a0 : Addr) (ka : ClassId) (y0 : Int32) (y1 : Int32) (y2 : Int32) (y3 : Int32) (h0 : Heap) (n0 : Nat) (Z0 : n0 ≤ h0.size) (gn : n0 ≤ a0) (V0 : Arv Z h0 a0 ka .int (4 : Int32) [(.int y0), (.int y1), (.int y2), (.int y3)] (.int (0 : Int32))) :
    MetFree l (⟨"com/example/lichen/lichen/analysis/RunsCountUpToPinLaw", "order", "([III)V"⟩ : MethodName) (head1 (Jvm.Cond.code (⟨"com/example/lichen/lichen/analysis/RunsCountUpToPinLaw", "order", "([III)V"⟩ : MethodName) method_3_code 4 none :: ws) ({ frames := 0, cells := 0, slots := 0, locals := 0 } : Room)) (fun a U => a = #[(.ref a0), (.int (1 : Int32)), (.int (3 : Int32))] ∧ Z.Warmed39 U.vm ∧ U.heap = h0) (fun _ _ _ _ _ => True) (fun _ U o U' => ∃ v L, o = .returned v ∧ Q1_13 Z a0 ka y0 y1 y2 y3 h0 n0 v U'.heap L ∧ FrameEnd U o U' L ({ frames := 0, cells := 0, slots := 0, locals := 0 } : Room).cells ({ frames := 0, cells := 0, slots := 0, locals := 0 } : Room).slots) := by
  refine MetFree.of_bodySF (plainFor_of_name pn_com_example_lichen_lichen_analysis_RunsCountUpToPinLaw) hisR ?_
  intro p e s m args below meth c s₁ Bd hml0 hP hK
  obtain ⟨rfl, hZ, hh⟩ := hP
  have hx := Bd.exec
  have hby := Bd.bytes
  have hml : c.maxLocals = 4 := hml0
  have hown : s.vm.findClass "com/example/lichen/lichen/analysis/RunsCountUpToPinLaw" = some m.cls := findClass_of_methodNamed Bd.named
  have hnm := (name_of_methodNamed Bd.named Bd.method).1
  have X0 : Stand p l e ({ frames := 0, cells := 0, slots := 0, locals := 0 } : Room) s m #[(.ref a0), (.int (1 : Int32)), (.int (3 : Int32))] below meth c s₁ [] 0 0 := Stand.of_body Bd
  have e0 : s₁.heap = h0 := by rw [← hh, Bd.state]; rfl
  have N0 := Fr.nil n0
  obtain ⟨G0, hG0⟩ : ∃ G, G = s₁.setTop (entryFrame m #[(.ref a0), (.int (1 : Int32)), (.int (3 : Int32))] 4) := ⟨_, rfl⟩
  have K0 : ∀ t, Steps p.tables e below (s₁.setTop (mkF m 0 #[.val (.ref a0), .val (.int (1 : Int32)), .val (.int (3 : Int32)), .unset] [])) t → Steps p.tables e below G0 t := fun t k => by rw [hG0]; exact castTop (ef_rm1_13 m a0) k
  have K1 : ∀ t, Steps p.tables e below (s₁.setTop (mkF m 2 #[.val (.ref a0), .val (.int (1 : Int32)), .val (.int (3 : Int32)), .unset] [(.int (1 : Int32)), (.ref a0)])) t → Steps p.tables e below G0 t := by
    intro t kt
    refine K0 t ?_
    refine XS.aloadN X0.here hx rfl (hb hby d1_0) rfl rfl ?_
    show Steps p.tables e below (s₁.setTop (mkF m 1 #[.val (.ref a0), .val (.int (1 : Int32)), .val (.int (3 : Int32)), .unset] [(.ref a0)])) _
    refine XS.iloadN X0.here hx rfl (hb hby d1_1) rfl ?_
    show Steps p.tables e below (s₁.setTop (mkF m 2 #[.val (.ref a0), .val (.int (1 : Int32)), .val (.int (3 : Int32)), .unset] [(.int (1 : Int32)), (.ref a0)])) _
    exact kt
  obtain ⟨cl2, Ar2, qq2, S2, M2, H2, GG2⟩ := id V0
  have hin2 : ¬ ((1 : Int32) < 0 ∨ cl2.slots.size ≤ ((1 : Int32)).toNatClampNeg) := inb_of S2 ⟨by decide, by decide⟩
  have hat2 : cl2.slots[((1 : Int32)).toNatClampNeg]? = some (.int y1) := Has.at H2 hin2 rfl
  have K3 : ∀ t, Steps p.tables e below (s₁.setTop (mkF m 5 #[.val (.ref a0), .val (.int (1 : Int32)), .val (.int (3 : Int32)), .unset] [(.int (3 : Int32)), (.ref a0), (.int y1)])) t → Steps p.tables e below G0 t := by
    intro t kt
    refine K1 t ?_
    refine X0.iaload hx (j := (1 : Int32)) (v := (.int y1)) (by rw [e0]; exact (Ar2).1) (State.isArrayOf_alike hZ.alike (Ar2).2.1) (Ar2).2.2 hin2 hat2 (g := (mkF m 2 #[.val (.ref a0), .val (.int (1 : Int32)), .val (.int (3 : Int32)), .unset] [(.int (1 : Int32)), (.ref a0)])) rfl rfl (hb hby d1_2) _ ?_
    show Steps p.tables e below (s₁.setTop (mkF m 3 #[.val (.ref a0), .val (.int (1 : Int32)), .val (.int (3 : Int32)), .unset] [(.int y1)])) _
    refine XS.aloadN X0.here hx rfl (hb hby d1_3) rfl rfl ?_
    show Steps p.tables e below (s₁.setTop (mkF m 4 #[.val (.ref a0), .val (.int (1 : Int32)), .val (.int (3 : Int32)), .unset] [(.ref a0), (.int y1)])) _
    refine XS.iloadN X0.here hx rfl (hb hby d1_4) rfl ?_
    show Steps p.tables e below (s₁.setTop (mkF m 5 #[.val (.ref a0), .val (.int (1 : Int32)), .val (.int (3 : Int32)), .unset] [(.int (3 : Int32)), (.ref a0), (.int y1)])) _
    exact kt
  obtain ⟨cl4, Ar4, qq4, S4, M4, H4, GG4⟩ := id V0
  have hin4 : ¬ ((3 : Int32) < 0 ∨ cl4.slots.size ≤ ((3 : Int32)).toNatClampNeg) := inb_of S4 ⟨by decide, by decide⟩
  have hat4 : cl4.slots[((3 : Int32)).toNatClampNeg]? = some (.int y3) := Has.at H4 hin4 rfl
  have K5 : ∀ t, Steps p.tables e below (s₁.setTop (mkF m 6 #[.val (.ref a0), .val (.int (1 : Int32)), .val (.int (3 : Int32)), .unset] [(.int y3), (.int y1)])) t → Steps p.tables e below G0 t := by
    intro t kt
    refine K3 t ?_
    refine X0.iaload hx (j := (3 : Int32)) (v := (.int y3)) (by rw [e0]; exact (Ar4).1) (State.isArrayOf_alike hZ.alike (Ar4).2.1) (Ar4).2.2 hin4 hat4 (g := (mkF m 5 #[.val (.ref a0), .val (.int (1 : Int32)), .val (.int (3 : Int32)), .unset] [(.int (3 : Int32)), (.ref a0), (.int y1)])) rfl rfl (hb hby d1_5) _ ?_
    show Steps p.tables e below (s₁.setTop (mkF m 6 #[.val (.ref a0), .val (.int (1 : Int32)), .val (.int (3 : Int32)), .unset] [(.int y3), (.int y1)])) _
    exact kt
  by_cases hc6 : y3 < y1
  ·
    have K7 : ∀ t, Steps p.tables e below (s₁.setTop (mkF m 11 #[.val (.ref a0), .val (.int (1 : Int32)), .val (.int (3 : Int32)), .unset] [(.int (1 : Int32)), (.ref a0)])) t → Steps p.tables e below G0 t := by
      intro t kt
      refine K5 t ?_
      refine XS.icmpNo X0.here hx rfl (hb hby d1_6) rfl (tlt hc6).2.2.2 ?_
      show Steps p.tables e below (s₁.setTop (mkF m 9 #[.val (.ref a0), .val (.int (1 : Int32)), .val (.int (3 : Int32)), .unset] [])) _
      refine XS.aloadN X0.here hx rfl (hb hby d1_9) rfl rfl ?_
      show Steps p.tables e below (s₁.setTop (mkF m 10 #[.val (.ref a0), .val (.int (1 : Int32)), .val (.int (3 : Int32)), .unset] [(.ref a0)])) _
      refine XS.iloadN X0.here hx rfl (hb hby d1_10) rfl ?_
      show Steps p.tables e below (s₁.setTop (mkF m 11 #[.val (.ref a0), .val (.int (1 : Int32)), .val (.int (3 : Int32)), .unset] [(.int (1 : Int32)), (.ref a0)])) _
      exact kt
    obtain ⟨cl8, Ar8, qq8, S8, M8, H8, GG8⟩ := id V0
    have hin8 : ¬ ((1 : Int32) < 0 ∨ cl8.slots.size ≤ ((1 : Int32)).toNatClampNeg) := inb_of S8 ⟨by decide, by decide⟩
    have hat8 : cl8.slots[((1 : Int32)).toNatClampNeg]? = some (.int y1) := Has.at H8 hin8 rfl
    have K9 : ∀ t, Steps p.tables e below (s₁.setTop (mkF m 17 #[.val (.ref a0), .val (.int (1 : Int32)), .val (.int (3 : Int32)), .val (.int y1)] [(.int (3 : Int32)), (.ref a0), (.int (1 : Int32)), (.ref a0)])) t → Steps p.tables e below G0 t := by
      intro t kt
      refine K7 t ?_
      refine X0.iaload hx (j := (1 : Int32)) (v := (.int y1)) (by rw [e0]; exact (Ar8).1) (State.isArrayOf_alike hZ.alike (Ar8).2.1) (Ar8).2.2 hin8 hat8 (g := (mkF m 11 #[.val (.ref a0), .val (.int (1 : Int32)), .val (.int (3 : Int32)), .unset] [(.int (1 : Int32)), (.ref a0)])) rfl rfl (hb hby d1_11) _ ?_
      show Steps p.tables e below (s₁.setTop (mkF m 12 #[.val (.ref a0), .val (.int (1 : Int32)), .val (.int (3 : Int32)), .unset] [(.int y1)])) _
      refine XS.istoreN X0.here hx rfl (hb hby d1_12) rfl (l' := #[.val (.ref a0), .val (.int (1 : Int32)), .val (.int (3 : Int32)), .val (.int y1)]) rfl ?_
      show Steps p.tables e below (s₁.setTop (mkF m 13 #[.val (.ref a0), .val (.int (1 : Int32)), .val (.int (3 : Int32)), .val (.int y1)] [])) _
      refine XS.aloadN X0.here hx rfl (hb hby d1_13) rfl rfl ?_
      show Steps p.tables e below (s₁.setTop (mkF m 14 #[.val (.ref a0), .val (.int (1 : Int32)), .val (.int (3 : Int32)), .val (.int y1)] [(.ref a0)])) _
      refine XS.iloadN X0.here hx rfl (hb hby d1_14) rfl ?_
      show Steps p.tables e below (s₁.setTop (mkF m 15 #[.val (.ref a0), .val (.int (1 : Int32)), .val (.int (3 : Int32)), .val (.int y1)] [(.int (1 : Int32)), (.ref a0)])) _
      refine XS.aloadN X0.here hx rfl (hb hby d1_15) rfl rfl ?_
      show Steps p.tables e below (s₁.setTop (mkF m 16 #[.val (.ref a0), .val (.int (1 : Int32)), .val (.int (3 : Int32)), .val (.int y1)] [(.ref a0), (.int (1 : Int32)), (.ref a0)])) _
      refine XS.iloadN X0.here hx rfl (hb hby d1_16) rfl ?_
      show Steps p.tables e below (s₁.setTop (mkF m 17 #[.val (.ref a0), .val (.int (1 : Int32)), .val (.int (3 : Int32)), .val (.int y1)] [(.int (3 : Int32)), (.ref a0), (.int (1 : Int32)), (.ref a0)])) _
      exact kt
    obtain ⟨cl10, Ar10, qq10, S10, M10, H10, GG10⟩ := id V0
    have hin10 : ¬ ((3 : Int32) < 0 ∨ cl10.slots.size ≤ ((3 : Int32)).toNatClampNeg) := inb_of S10 ⟨by decide, by decide⟩
    have hat10 : cl10.slots[((3 : Int32)).toNatClampNeg]? = some (.int y3) := Has.at H10 hin10 rfl
    have K11 : ∀ t, Steps p.tables e below (s₁.setTop (mkF m 18 #[.val (.ref a0), .val (.int (1 : Int32)), .val (.int (3 : Int32)), .val (.int y1)] [(.int y3), (.int (1 : Int32)), (.ref a0)])) t → Steps p.tables e below G0 t := by
      intro t kt
      refine K9 t ?_
      refine X0.iaload hx (j := (3 : Int32)) (v := (.int y3)) (by rw [e0]; exact (Ar10).1) (State.isArrayOf_alike hZ.alike (Ar10).2.1) (Ar10).2.2 hin10 hat10 (g := (mkF m 17 #[.val (.ref a0), .val (.int (1 : Int32)), .val (.int (3 : Int32)), .val (.int y1)] [(.int (3 : Int32)), (.ref a0), (.int (1 : Int32)), (.ref a0)])) rfl rfl (hb hby d1_17) _ ?_
      show Steps p.tables e below (s₁.setTop (mkF m 18 #[.val (.ref a0), .val (.int (1 : Int32)), .val (.int (3 : Int32)), .val (.int y1)] [(.int y3), (.int (1 : Int32)), (.ref a0)])) _
      exact kt
    obtain ⟨cl12, Ar12, qq12, S12, M12, H12, GG12⟩ := id V0
    have hin12 : ¬ ((1 : Int32) < 0 ∨ cl12.slots.size ≤ ((1 : Int32)).toNatClampNeg) := inb_of S12 ⟨by decide, by decide⟩
    obtain ⟨T13, h13, X13, e13, W13, st13⟩ := stI X0 hx hZ e0 Ar12 (j := (1 : Int32)) hin12 (g := (mkF m 18 #[.val (.ref a0), .val (.int (1 : Int32)), .val (.int (3 : Int32)), .val (.int y1)] [(.int y3), (.int (1 : Int32)), (.ref a0)])) rfl rfl (hb hby d1_18)
    have K13 : ∀ t, Steps p.tables e below (T13.setTop (mkF m 19 #[.val (.ref a0), .val (.int (1 : Int32)), .val (.int (3 : Int32)), .val (.int y1)] [])) t → Steps p.tables e below G0 t := fun t kt => K11 t (st13 _ kt)
    have Z13 : n0 ≤ h13.size := Nat.le_trans Z0 (Keep.of_wr W13).1
    have VL13 : Arv Z h13 a0 ka .int (4 : Int32) [(.int y0), (.int y3), (.int y2), (.int y3)] (.int (0 : Int32)) := Arv.set Ar12 qq12 S12 M12 H12 GG12 rfl W13 1 rfl (Nat.le_of_ble_eq_true rfl)
    have N13 := Fr.snoc X13 N0 gn
    have K14 : ∀ t, Steps p.tables e below (T13.setTop (mkF m 22 #[.val (.ref a0), .val (.int (1 : Int32)), .val (.int (3 : Int32)), .val (.int y1)] [(.int y1), (.int (3 : Int32)), (.ref a0)])) t → Steps p.tables e below G0 t := by
      intro t kt
      refine K13 t ?_
      refine XS.aloadN X13.here hx rfl (hb hby d1_19) rfl rfl ?_
      show Steps p.tables e below (T13.setTop (mkF m 20 #[.val (.ref a0), .val (.int (1 : Int32)), .val (.int (3 : Int32)), .val (.int y1)] [(.ref a0)])) _
      refine XS.iloadN X13.here hx rfl (hb hby d1_20) rfl ?_
      show Steps p.tables e below (T13.setTop (mkF m 21 #[.val (.ref a0), .val (.int (1 : Int32)), .val (.int (3 : Int32)), .val (.int y1)] [(.int (3 : Int32)), (.ref a0)])) _
      refine XS.iloadN X13.here hx rfl (hb hby d1_21) rfl ?_
      show Steps p.tables e below (T13.setTop (mkF m 22 #[.val (.ref a0), .val (.int (1 : Int32)), .val (.int (3 : Int32)), .val (.int y1)] [(.int y1), (.int (3 : Int32)), (.ref a0)])) _
      exact kt
    obtain ⟨cl15, Ar15, qq15, S15, M15, H15, GG15⟩ := id VL13
    have hin15 : ¬ ((3 : Int32) < 0 ∨ cl15.slots.size ≤ ((3 : Int32)).toNatClampNeg) := inb_of S15 ⟨by decide, by decide⟩
    obtain ⟨T16, h16, X16, e16, W16, st16⟩ := stI X13 hx hZ e13 Ar15 (j := (3 : Int32)) hin15 (g := (mkF m 22 #[.val (.ref a0), .val (.int (1 : Int32)), .val (.int (3 : Int32)), .val (.int y1)] [(.int y1), (.int (3 : Int32)), (.ref a0)])) rfl rfl (hb hby d1_22)
    have K16 : ∀ t, Steps p.tables e below (T16.setTop (mkF m 23 #[.val (.ref a0), .val (.int (1 : Int32)), .val (.int (3 : Int32)), .val (.int y1)] [])) t → Steps p.tables e below G0 t := fun t kt => K14 t (st16 _ kt)
    have Z16 : n0 ≤ h16.size := Nat.le_trans Z13 (Keep.of_wr W16).1
    have VL16 : Arv Z h16 a0 ka .int (4 : Int32) [(.int y0), (.int y3), (.int y2), (.int y1)] (.int (0 : Int32)) := Arv.set Ar15 qq15 S15 M15 H15 GG15 rfl W16 3 rfl (Nat.le_of_ble_eq_true rfl)
    have N16 := Fr.snoc X16 N13 gn
    obtain ⟨fs, hr, hrun, hended, hW, hsame⟩ := X16.leave (v := none) (fun _ => rfl)
    refine ⟨_, _, ?_, hrun, hended, _, _, rfl, ?_, ⟨_, rfl⟩, hW, hsame.mono (by decide) (by decide)⟩
    · rw [← hG0]
      refine K16 _ ?_
      exact X16.returnOut hx Bd.returns (hb hby d1_23) hr
    · show Q1_13 Z a0 ka y0 y1 y2 y3 h0 n0 _ T16.heap _
      rw [e16]
      exact ⟨rfl, N16, ((Keep.refl h0 [a0]).wr W13 (Or.inl (List.mem_of_getElem? (i := 0) rfl))).wr W16 (Or.inl (List.mem_of_getElem? (i := 0) rfl)), by rw [own_lo, own_hi, if_pos hc6, if_pos hc6]; exact VL16⟩
  ·
    have K17 : ∀ t, Steps p.tables e below (s₁.setTop (mkF m 23 #[.val (.ref a0), .val (.int (1 : Int32)), .val (.int (3 : Int32)), .unset] [])) t → Steps p.tables e below G0 t := by
      intro t kt
      refine K5 t ?_
      refine XS.icmpYes X0.here hx rfl (pc0 := 6) (pc' := 23) rfl (hb hby d1_6) rfl (flt hc6).2.2.2 (by decide) (by decide) ?_
      show Steps p.tables e below (s₁.setTop (mkF m 23 #[.val (.ref a0), .val (.int (1 : Int32)), .val (.int (3 : Int32)), .unset] [])) _
      exact kt
    obtain ⟨fs, hr, hrun, hended, hW, hsame⟩ := X0.leave (v := none) (fun _ => rfl)
    refine ⟨_, _, ?_, hrun, hended, _, _, rfl, ?_, ⟨_, rfl⟩, hW, hsame.mono (by decide) (by decide)⟩
    · rw [← hG0]
      refine K17 _ ?_
      exact X0.returnOut hx Bd.returns (hb hby d1_23) hr
    · show Q1_13 Z a0 ka y0 y1 y2 y3 h0 n0 _ s₁.heap _
      rw [e0]
      exact ⟨rfl, N0, Keep.refl h0 [a0], by rw [own_lo, own_hi, if_neg hc6, if_neg hc6]; exact V0⟩
theorem ef_rm1_12 (m : MethodId) (a0 : Addr) : entryFrame m #[(.ref a0), (.int (1 : Int32)), (.int (2 : Int32))] 4 = (mkF m 0 #[.val (.ref a0), .val (.int (1 : Int32)), .val (.int (2 : Int32)), .unset] []) := by first | (simp [entryFrame, mkF, argsToLocals, Value.category]; done) | rfl
def Q1_12 (Z : State) (a0 : Addr) (ka : ClassId) (y0 : Int32) (y1 : Int32) (y2 : Int32) (y3 : Int32) (h0 : Heap) (n0 : Nat) (v : Option Value) (h : Heap) (L : List Loc) : Prop := v = none ∧ Fr n0 L ∧ Keep h0 h [a0] ∧ Arv Z h a0 ka .int (4 : Int32) [(.int y0), (.int (own_lo y1 y2)), (.int (own_hi y1 y2)), (.int y3)] (.int (0 : Int32))
set_option maxRecDepth 65536 in
set_option maxHeartbeats 40000000 in
theorem rm1_12 (l : Launch) (Z : State) (aa : Array Value) (hw : ∀ d ∈ tables_1, d.before aa Z = true) (ws : List Jvm.Cond) (a0 : Addr) (ka : ClassId) (y0 : Int32) (y1 : Int32) (y2 : Int32) (y3 : Int32) (h0 : Heap) (n0 : Nat) (Z0 : n0 ≤ h0.size) (gn : n0 ≤ a0) (V0 : Arv Z h0 a0 ka .int (4 : Int32) [(.int y0), (.int y1), (.int y2), (.int y3)] (.int (0 : Int32))) :
    MetFree l (⟨"com/example/lichen/lichen/analysis/RunsCountUpToPinLaw", "order", "([III)V"⟩ : MethodName) (head1 (Jvm.Cond.code (⟨"com/example/lichen/lichen/analysis/RunsCountUpToPinLaw", "order", "([III)V"⟩ : MethodName) method_3_code 4 none :: ws) ({ frames := 0, cells := 0, slots := 0, locals := 0 } : Room)) (fun a U => a = #[(.ref a0), (.int (1 : Int32)), (.int (2 : Int32))] ∧ Z.Warmed39 U.vm ∧ U.heap = h0) (fun _ _ _ _ _ => True) (fun _ U o U' => ∃ v L, o = .returned v ∧ Q1_12 Z a0 ka y0 y1 y2 y3 h0 n0 v U'.heap L ∧ FrameEnd U o U' L ({ frames := 0, cells := 0, slots := 0, locals := 0 } : Room).cells ({ frames := 0, cells := 0, slots := 0, locals := 0 } : Room).slots) := by
  refine MetFree.of_bodySF (plainFor_of_name pn_com_example_lichen_lichen_analysis_RunsCountUpToPinLaw) hisR ?_
  intro p e s m args below meth c s₁ Bd hml0 hP hK
  obtain ⟨rfl, hZ, hh⟩ := hP
  have hx := Bd.exec
  have hby := Bd.bytes
  have hml : c.maxLocals = 4 := hml0
  have hown : s.vm.findClass "com/example/lichen/lichen/analysis/RunsCountUpToPinLaw" = some m.cls := findClass_of_methodNamed Bd.named
  have hnm := (name_of_methodNamed Bd.named Bd.method).1
  have X0 : Stand p l e ({ frames := 0, cells := 0, slots := 0, locals := 0 } : Room) s m #[(.ref a0), (.int (1 : Int32)), (.int (2 : Int32))] below meth c s₁ [] 0 0 := Stand.of_body Bd
  have e0 : s₁.heap = h0 := by rw [← hh, Bd.state]; rfl
  have N0 := Fr.nil n0
  obtain ⟨G0, hG0⟩ : ∃ G, G = s₁.setTop (entryFrame m #[(.ref a0), (.int (1 : Int32)), (.int (2 : Int32))] 4) := ⟨_, rfl⟩
  have K0 : ∀ t, Steps p.tables e below (s₁.setTop (mkF m 0 #[.val (.ref a0), .val (.int (1 : Int32)), .val (.int (2 : Int32)), .unset] [])) t → Steps p.tables e below G0 t := fun t k => by rw [hG0]; exact castTop (ef_rm1_12 m a0) k
  have K1 : ∀ t, Steps p.tables e below (s₁.setTop (mkF m 2 #[.val (.ref a0), .val (.int (1 : Int32)), .val (.int (2 : Int32)), .unset] [(.int (1 : Int32)), (.ref a0)])) t → Steps p.tables e below G0 t := by
    intro t kt
    refine K0 t ?_
    refine XS.aloadN X0.here hx rfl (hb hby d1_0) rfl rfl ?_
    show Steps p.tables e below (s₁.setTop (mkF m 1 #[.val (.ref a0), .val (.int (1 : Int32)), .val (.int (2 : Int32)), .unset] [(.ref a0)])) _
    refine XS.iloadN X0.here hx rfl (hb hby d1_1) rfl ?_
    show Steps p.tables e below (s₁.setTop (mkF m 2 #[.val (.ref a0), .val (.int (1 : Int32)), .val (.int (2 : Int32)), .unset] [(.int (1 : Int32)), (.ref a0)])) _
    exact kt
  obtain ⟨cl2, Ar2, qq2, S2, M2, H2, GG2⟩ := id V0
  have hin2 : ¬ ((1 : Int32) < 0 ∨ cl2.slots.size ≤ ((1 : Int32)).toNatClampNeg) := inb_of S2 ⟨by decide, by decide⟩
  have hat2 : cl2.slots[((1 : Int32)).toNatClampNeg]? = some (.int y1) := Has.at H2 hin2 rfl
  have K3 : ∀ t, Steps p.tables e below (s₁.setTop (mkF m 5 #[.val (.ref a0), .val (.int (1 : Int32)), .val (.int (2 : Int32)), .unset] [(.int (2 : Int32)), (.ref a0), (.int y1)])) t → Steps p.tables e below G0 t := by
    intro t kt
    refine K1 t ?_
    refine X0.iaload hx (j := (1 : Int32)) (v := (.int y1)) (by rw [e0]; exact (Ar2).1) (State.isArrayOf_alike hZ.alike (Ar2).2.1) (Ar2).2.2 hin2 hat2 (g := (mkF m 2 #[.val (.ref a0), .val (.int (1 : Int32)), .val (.int (2 : Int32)), .unset] [(.int (1 : Int32)), (.ref a0)])) rfl rfl (hb hby d1_2) _ ?_
    show Steps p.tables e below (s₁.setTop (mkF m 3 #[.val (.ref a0), .val (.int (1 : Int32)), .val (.int (2 : Int32)), .unset] [(.int y1)])) _
    refine XS.aloadN X0.here hx rfl (hb hby d1_3) rfl rfl ?_
    show Steps p.tables e below (s₁.setTop (mkF m 4 #[.val (.ref a0), .val (.int (1 : Int32)), .val (.int (2 : Int32)), .unset] [(.ref a0), (.int y1)])) _
    refine XS.iloadN X0.here hx rfl (hb hby d1_4) rfl ?_
    show Steps p.tables e below (s₁.setTop (mkF m 5 #[.val (.ref a0), .val (.int (1 : Int32)), .val (.int (2 : Int32)), .unset] [(.int (2 : Int32)), (.ref a0), (.int y1)])) _
    exact kt
  obtain ⟨cl4, Ar4, qq4, S4, M4, H4, GG4⟩ := id V0
  have hin4 : ¬ ((2 : Int32) < 0 ∨ cl4.slots.size ≤ ((2 : Int32)).toNatClampNeg) := inb_of S4 ⟨by decide, by decide⟩
  have hat4 : cl4.slots[((2 : Int32)).toNatClampNeg]? = some (.int y2) := Has.at H4 hin4 rfl
  have K5 : ∀ t, Steps p.tables e below (s₁.setTop (mkF m 6 #[.val (.ref a0), .val (.int (1 : Int32)), .val (.int (2 : Int32)), .unset] [(.int y2), (.int y1)])) t → Steps p.tables e below G0 t := by
    intro t kt
    refine K3 t ?_
    refine X0.iaload hx (j := (2 : Int32)) (v := (.int y2)) (by rw [e0]; exact (Ar4).1) (State.isArrayOf_alike hZ.alike (Ar4).2.1) (Ar4).2.2 hin4 hat4 (g := (mkF m 5 #[.val (.ref a0), .val (.int (1 : Int32)), .val (.int (2 : Int32)), .unset] [(.int (2 : Int32)), (.ref a0), (.int y1)])) rfl rfl (hb hby d1_5) _ ?_
    show Steps p.tables e below (s₁.setTop (mkF m 6 #[.val (.ref a0), .val (.int (1 : Int32)), .val (.int (2 : Int32)), .unset] [(.int y2), (.int y1)])) _
    exact kt
  by_cases hc6 : y2 < y1
  ·
    have K7 : ∀ t, Steps p.tables e below (s₁.setTop (mkF m 11 #[.val (.ref a0), .val (.int (1 : Int32)), .val (.int (2 : Int32)), .unset] [(.int (1 : Int32)), (.ref a0)])) t → Steps p.tables e below G0 t := by
      intro t kt
      refine K5 t ?_
      refine XS.icmpNo X0.here hx rfl (hb hby d1_6) rfl (tlt hc6).2.2.2 ?_
      show Steps p.tables e below (s₁.setTop (mkF m 9 #[.val (.ref a0), .val (.int (1 : Int32)), .val (.int (2 : Int32)), .unset] [])) _
      refine XS.aloadN X0.here hx rfl (hb hby d1_9) rfl rfl ?_
      show Steps p.tables e below (s₁.setTop (mkF m 10 #[.val (.ref a0), .val (.int (1 : Int32)), .val (.int (2 : Int32)), .unset] [(.ref a0)])) _
      refine XS.iloadN X0.here hx rfl (hb hby d1_10) rfl ?_
      show Steps p.tables e below (s₁.setTop (mkF m 11 #[.val (.ref a0), .val (.int (1 : Int32)), .val (.int (2 : Int32)), .unset] [(.int (1 : Int32)), (.ref a0)])) _
      exact kt
    obtain ⟨cl8, Ar8, qq8, S8, M8, H8, GG8⟩ := id V0
    have hin8 : ¬ ((1 : Int32) < 0 ∨ cl8.slots.size ≤ ((1 : Int32)).toNatClampNeg) := inb_of S8 ⟨by decide, by decide⟩
    have hat8 : cl8.slots[((1 : Int32)).toNatClampNeg]? = some (.int y1) := Has.at H8 hin8 rfl
    have K9 : ∀ t, Steps p.tables e below (s₁.setTop (mkF m 17 #[.val (.ref a0), .val (.int (1 : Int32)), .val (.int (2 : Int32)), .val (.int y1)] [(.int (2 : Int32)), (.ref a0), (.int (1 : Int32)), (.ref a0)])) t → Steps p.tables e below G0 t := by
      intro t kt
      refine K7 t ?_
      refine X0.iaload hx (j := (1 : Int32)) (v := (.int y1)) (by rw [e0]; exact (Ar8).1) (State.isArrayOf_alike hZ.alike (Ar8).2.1) (Ar8).2.2 hin8 hat8 (g := (mkF m 11 #[.val (.ref a0), .val (.int (1 : Int32)), .val (.int (2 : Int32)), .unset] [(.int (1 : Int32)), (.ref a0)])) rfl rfl (hb hby d1_11) _ ?_
      show Steps p.tables e below (s₁.setTop (mkF m 12 #[.val (.ref a0), .val (.int (1 : Int32)), .val (.int (2 : Int32)), .unset] [(.int y1)])) _
      refine XS.istoreN X0.here hx rfl (hb hby d1_12) rfl (l' := #[.val (.ref a0), .val (.int (1 : Int32)), .val (.int (2 : Int32)), .val (.int y1)]) rfl ?_
      show Steps p.tables e below (s₁.setTop (mkF m 13 #[.val (.ref a0), .val (.int (1 : Int32)), .val (.int (2 : Int32)), .val (.int y1)] [])) _
      refine XS.aloadN X0.here hx rfl (hb hby d1_13) rfl rfl ?_
      show Steps p.tables e below (s₁.setTop (mkF m 14 #[.val (.ref a0), .val (.int (1 : Int32)), .val (.int (2 : Int32)), .val (.int y1)] [(.ref a0)])) _
      refine XS.iloadN X0.here hx rfl (hb hby d1_14) rfl ?_
      show Steps p.tables e below (s₁.setTop (mkF m 15 #[.val (.ref a0), .val (.int (1 : Int32)), .val (.int (2 : Int32)), .val (.int y1)] [(.int (1 : Int32)), (.ref a0)])) _
      refine XS.aloadN X0.here hx rfl (hb hby d1_15) rfl rfl ?_
      show Steps p.tables e below (s₁.setTop (mkF m 16 #[.val (.ref a0), .val (.int (1 : Int32)), .val (.int (2 : Int32)), .val (.int y1)] [(.ref a0), (.int (1 : Int32)), (.ref a0)])) _
      refine XS.iloadN X0.here hx rfl (hb hby d1_16) rfl ?_
      show Steps p.tables e below (s₁.setTop (mkF m 17 #[.val (.ref a0), .val (.int (1 : Int32)), .val (.int (2 : Int32)), .val (.int y1)] [(.int (2 : Int32)), (.ref a0), (.int (1 : Int32)), (.ref a0)])) _
      exact kt
    obtain ⟨cl10, Ar10, qq10, S10, M10, H10, GG10⟩ := id V0
    have hin10 : ¬ ((2 : Int32) < 0 ∨ cl10.slots.size ≤ ((2 : Int32)).toNatClampNeg) := inb_of S10 ⟨by decide, by decide⟩
    have hat10 : cl10.slots[((2 : Int32)).toNatClampNeg]? = some (.int y2) := Has.at H10 hin10 rfl
    have K11 : ∀ t, Steps p.tables e below (s₁.setTop (mkF m 18 #[.val (.ref a0), .val (.int (1 : Int32)), .val (.int (2 : Int32)), .val (.int y1)] [(.int y2), (.int (1 : Int32)), (.ref a0)])) t → Steps p.tables e below G0 t := by
      intro t kt
      refine K9 t ?_
      refine X0.iaload hx (j := (2 : Int32)) (v := (.int y2)) (by rw [e0]; exact (Ar10).1) (State.isArrayOf_alike hZ.alike (Ar10).2.1) (Ar10).2.2 hin10 hat10 (g := (mkF m 17 #[.val (.ref a0), .val (.int (1 : Int32)), .val (.int (2 : Int32)), .val (.int y1)] [(.int (2 : Int32)), (.ref a0), (.int (1 : Int32)), (.ref a0)])) rfl rfl (hb hby d1_17) _ ?_
      show Steps p.tables e below (s₁.setTop (mkF m 18 #[.val (.ref a0), .val (.int (1 : Int32)), .val (.int (2 : Int32)), .val (.int y1)] [(.int y2), (.int (1 : Int32)), (.ref a0)])) _
      exact kt
    obtain ⟨cl12, Ar12, qq12, S12, M12, H12, GG12⟩ := id V0
    have hin12 : ¬ ((1 : Int32) < 0 ∨ cl12.slots.size ≤ ((1 : Int32)).toNatClampNeg) := inb_of S12 ⟨by decide, by decide⟩
    obtain ⟨T13, h13, X13, e13, W13, st13⟩ := stI X0 hx hZ e0 Ar12 (j := (1 : Int32)) hin12 (g := (mkF m 18 #[.val (.ref a0), .val (.int (1 : Int32)), .val (.int (2 : Int32)), .val (.int y1)] [(.int y2), (.int (1 : Int32)), (.ref a0)])) rfl rfl (hb hby d1_18)
    have K13 : ∀ t, Steps p.tables e below (T13.setTop (mkF m 19 #[.val (.ref a0), .val (.int (1 : Int32)), .val (.int (2 : Int32)), .val (.int y1)] [])) t → Steps p.tables e below G0 t := fun t kt => K11 t (st13 _ kt)
    have Z13 : n0 ≤ h13.size := Nat.le_trans Z0 (Keep.of_wr W13).1
    have VL13 : Arv Z h13 a0 ka .int (4 : Int32) [(.int y0), (.int y2), (.int y2), (.int y3)] (.int (0 : Int32)) := Arv.set Ar12 qq12 S12 M12 H12 GG12 rfl W13 1 rfl (Nat.le_of_ble_eq_true rfl)
    have N13 := Fr.snoc X13 N0 gn
    have K14 : ∀ t, Steps p.tables e below (T13.setTop (mkF m 22 #[.val (.ref a0), .val (.int (1 : Int32)), .val (.int (2 : Int32)), .val (.int y1)] [(.int y1), (.int (2 : Int32)), (.ref a0)])) t → Steps p.tables e below G0 t := by
      intro t kt
      refine K13 t ?_
      refine XS.aloadN X13.here hx rfl (hb hby d1_19) rfl rfl ?_
      show Steps p.tables e below (T13.setTop (mkF m 20 #[.val (.ref a0), .val (.int (1 : Int32)), .val (.int (2 : Int32)), .val (.int y1)] [(.ref a0)])) _
      refine XS.iloadN X13.here hx rfl (hb hby d1_20) rfl ?_
      show Steps p.tables e below (T13.setTop (mkF m 21 #[.val (.ref a0), .val (.int (1 : Int32)), .val (.int (2 : Int32)), .val (.int y1)] [(.int (2 : Int32)), (.ref a0)])) _
      refine XS.iloadN X13.here hx rfl (hb hby d1_21) rfl ?_
      show Steps p.tables e below (T13.setTop (mkF m 22 #[.val (.ref a0), .val (.int (1 : Int32)), .val (.int (2 : Int32)), .val (.int y1)] [(.int y1), (.int (2 : Int32)), (.ref a0)])) _
      exact kt
    obtain ⟨cl15, Ar15, qq15, S15, M15, H15, GG15⟩ := id VL13
    have hin15 : ¬ ((2 : Int32) < 0 ∨ cl15.slots.size ≤ ((2 : Int32)).toNatClampNeg) := inb_of S15 ⟨by decide, by decide⟩
    obtain ⟨T16, h16, X16, e16, W16, st16⟩ := stI X13 hx hZ e13 Ar15 (j := (2 : Int32)) hin15 (g := (mkF m 22 #[.val (.ref a0), .val (.int (1 : Int32)), .val (.int (2 : Int32)), .val (.int y1)] [(.int y1), (.int (2 : Int32)), (.ref a0)])) rfl rfl (hb hby d1_22)
    have K16 : ∀ t, Steps p.tables e below (T16.setTop (mkF m 23 #[.val (.ref a0), .val (.int (1 : Int32)), .val (.int (2 : Int32)), .val (.int y1)] [])) t → Steps p.tables e below G0 t := fun t kt => K14 t (st16 _ kt)
    have Z16 : n0 ≤ h16.size := Nat.le_trans Z13 (Keep.of_wr W16).1
    have VL16 : Arv Z h16 a0 ka .int (4 : Int32) [(.int y0), (.int y2), (.int y1), (.int y3)] (.int (0 : Int32)) := Arv.set Ar15 qq15 S15 M15 H15 GG15 rfl W16 2 rfl (Nat.le_of_ble_eq_true rfl)
    have N16 := Fr.snoc X16 N13 gn
    obtain ⟨fs, hr, hrun, hended, hW, hsame⟩ := X16.leave (v := none) (fun _ => rfl)
    refine ⟨_, _, ?_, hrun, hended, _, _, rfl, ?_, ⟨_, rfl⟩, hW, hsame.mono (by decide) (by decide)⟩
    · rw [← hG0]
      refine K16 _ ?_
      exact X16.returnOut hx Bd.returns (hb hby d1_23) hr
    · show Q1_12 Z a0 ka y0 y1 y2 y3 h0 n0 _ T16.heap _
      rw [e16]
      exact ⟨rfl, N16, ((Keep.refl h0 [a0]).wr W13 (Or.inl (List.mem_of_getElem? (i := 0) rfl))).wr W16 (Or.inl (List.mem_of_getElem? (i := 0) rfl)), by rw [own_lo, own_hi, if_pos hc6, if_pos hc6]; exact VL16⟩
  ·
    have K17 : ∀ t, Steps p.tables e below (s₁.setTop (mkF m 23 #[.val (.ref a0), .val (.int (1 : Int32)), .val (.int (2 : Int32)), .unset] [])) t → Steps p.tables e below G0 t := by
      intro t kt
      refine K5 t ?_
      refine XS.icmpYes X0.here hx rfl (pc0 := 6) (pc' := 23) rfl (hb hby d1_6) rfl (flt hc6).2.2.2 (by decide) (by decide) ?_
      show Steps p.tables e below (s₁.setTop (mkF m 23 #[.val (.ref a0), .val (.int (1 : Int32)), .val (.int (2 : Int32)), .unset] [])) _
      exact kt
    obtain ⟨fs, hr, hrun, hended, hW, hsame⟩ := X0.leave (v := none) (fun _ => rfl)
    refine ⟨_, _, ?_, hrun, hended, _, _, rfl, ?_, ⟨_, rfl⟩, hW, hsame.mono (by decide) (by decide)⟩
    · rw [← hG0]
      refine K17 _ ?_
      exact X0.returnOut hx Bd.returns (hb hby d1_23) hr
    · show Q1_12 Z a0 ka y0 y1 y2 y3 h0 n0 _ s₁.heap _
      rw [e0]
      exact ⟨rfl, N0, Keep.refl h0 [a0], by rw [own_lo, own_hi, if_neg hc6, if_neg hc6]; exact V0⟩
theorem d2_0 : decode prog_23_method_6_code 0 = .ok (.iconst 0, 1) := by decide +kernel
theorem d2_1 : decode prog_23_method_6_code 1 = .ok (.istore_n 2, 1) := by decide +kernel
theorem d2_2 : decode prog_23_method_6_code 2 = .ok (.aload_n 0, 1) := by decide +kernel
theorem d2_3 : decode prog_23_method_6_code 3 = .ok (.arraylength, 1) := by decide +kernel
theorem d2_4 : decode prog_23_method_6_code 4 = .ok (.istore_n 3, 1) := by decide +kernel
theorem d2_5 : decode prog_23_method_6_code 5 = .ok (.iload_n 2, 1) := by decide +kernel
theorem d2_6 : decode prog_23_method_6_code 6 = .ok (.iload_n 3, 1) := by decide +kernel
theorem d2_7 : decode prog_23_method_6_code 7 = .ok (.if_icmp .ge 32, 3) := by decide +kernel
theorem d2_10 : decode prog_23_method_6_code 10 = .ok (.iload_n 2, 1) := by decide +kernel
theorem d2_11 : decode prog_23_method_6_code 11 = .ok (.iload_n 3, 1) := by decide +kernel
theorem d2_12 : decode prog_23_method_6_code 12 = .ok (.iadd, 1) := by decide +kernel
theorem d2_13 : decode prog_23_method_6_code 13 = .ok (.iconst 1, 1) := by decide +kernel
theorem d2_14 : decode prog_23_method_6_code 14 = .ok (.iushr, 1) := by decide +kernel
theorem d2_15 : decode prog_23_method_6_code 15 = .ok (.istore 4, 2) := by decide +kernel
theorem d2_17 : decode prog_23_method_6_code 17 = .ok (.aload_n 0, 1) := by decide +kernel
theorem d2_18 : decode prog_23_method_6_code 18 = .ok (.iload 4, 2) := by decide +kernel
theorem d2_20 : decode prog_23_method_6_code 20 = .ok (.iaload, 1) := by decide +kernel
theorem d2_21 : decode prog_23_method_6_code 21 = .ok (.iload_n 1, 1) := by decide +kernel
theorem d2_22 : decode prog_23_method_6_code 22 = .ok (.if_icmp .gt 11, 3) := by decide +kernel
theorem d2_25 : decode prog_23_method_6_code 25 = .ok (.iload 4, 2) := by decide +kernel
theorem d2_27 : decode prog_23_method_6_code 27 = .ok (.iconst 1, 1) := by decide +kernel
theorem d2_28 : decode prog_23_method_6_code 28 = .ok (.iadd, 1) := by decide +kernel
theorem d2_29 : decode prog_23_method_6_code 29 = .ok (.istore_n 2, 1) := by decide +kernel
theorem d2_30 : decode prog_23_method_6_code 30 = .ok (.goto 6, 3) := by decide +kernel
theorem d2_33 : decode prog_23_method_6_code 33 = .ok (.iload 4, 2) := by decide +kernel
theorem d2_35 : decode prog_23_method_6_code 35 = .ok (.istore_n 3, 1) := by decide +kernel
theorem d2_36 : decode prog_23_method_6_code 36 = .ok (.goto (-31), 3) := by decide +kernel
theorem d2_39 : decode prog_23_method_6_code 39 = .ok (.iload_n 2, 1) := by decide +kernel
theorem d2_40 : decode prog_23_method_6_code 40 = .ok (.ireturn, 1) := by decide +kernel
theorem pn_com_example_lichen_lichen_analysis_Runs : plainName "com/example/lichen/lichen/analysis/Runs" = true := by first | (simp [plainName, overriddenIn]; done) | decide +kernel
theorem ef_rm2_0 (m : MethodId) (a0 : Addr) (q : Int32) : entryFrame m #[(.ref a0), (.int q)] 5 = (mkF m 0 #[.val (.ref a0), .val (.int q), .unset, .unset, .unset] []) := by first | (simp [entryFrame, mkF, argsToLocals, Value.category]; done) | rfl
def Q2_0 (Z : State) (a0 : Addr) (q : Int32) (ka : ClassId) (h0 : Heap) (n0 : Nat) (v : Option Value) (h : Heap) (L : List Loc) : Prop := v = some (.int (0 : Int32)) ∧ Fr n0 L ∧ h = h0
set_option maxRecDepth 65536 in
set_option maxHeartbeats 40000000 in
theorem rm2_0 (l : Launch) (Z : State) (aa : Array Value) (hw : ∀ d ∈ tables_1, d.before aa Z = true) (ws : List Jvm.Cond) (a0 : Addr) (q : Int32) (ka : ClassId) (h0 : Heap) (n0 : Nat) (Z0 : n0 ≤ h0.size) (V0 : Arv Z h0 a0 ka .int (0 : Int32) [] (.int (0 : Int32))) :
    MetFree l (⟨"com/example/lichen/lichen/analysis/Runs", "countUpTo", "([II)I"⟩ : MethodName) (head1 (Jvm.Cond.code (⟨"com/example/lichen/lichen/analysis/Runs", "countUpTo", "([II)I"⟩ : MethodName) prog_23_method_6_code 5 (some .int) :: ws) ({ frames := 0, cells := 0, slots := 0, locals := 0 } : Room)) (fun a U => a = #[(.ref a0), (.int q)] ∧ Z.Warmed39 U.vm ∧ U.heap = h0) (fun _ _ _ _ _ => True) (fun _ U o U' => ∃ v L, o = .returned v ∧ Q2_0 Z a0 q ka h0 n0 v U'.heap L ∧ FrameEnd U o U' L ({ frames := 0, cells := 0, slots := 0, locals := 0 } : Room).cells ({ frames := 0, cells := 0, slots := 0, locals := 0 } : Room).slots) := by
  refine MetFree.of_bodySF (plainFor_of_name pn_com_example_lichen_lichen_analysis_Runs) hisR ?_
  intro p e s m args below meth c s₁ Bd hml0 hP hK
  obtain ⟨rfl, hZ, hh⟩ := hP
  have hx := Bd.exec
  have hby := Bd.bytes
  have hml : c.maxLocals = 5 := hml0
  have hown : s.vm.findClass "com/example/lichen/lichen/analysis/Runs" = some m.cls := findClass_of_methodNamed Bd.named
  have hnm := (name_of_methodNamed Bd.named Bd.method).1
  have X0 : Stand p l e ({ frames := 0, cells := 0, slots := 0, locals := 0 } : Room) s m #[(.ref a0), (.int q)] below meth c s₁ [] 0 0 := Stand.of_body Bd
  have e0 : s₁.heap = h0 := by rw [← hh, Bd.state]; rfl
  have N0 := Fr.nil n0
  obtain ⟨G0, hG0⟩ : ∃ G, G = s₁.setTop (entryFrame m #[(.ref a0), (.int q)] 5) := ⟨_, rfl⟩
  have K0 : ∀ t, Steps p.tables e below (s₁.setTop (mkF m 0 #[.val (.ref a0), .val (.int q), .unset, .unset, .unset] [])) t → Steps p.tables e below G0 t := fun t k => by rw [hG0]; exact castTop (ef_rm2_0 m a0 q) k
  have K1 : ∀ t, Steps p.tables e below (s₁.setTop (mkF m 3 #[.val (.ref a0), .val (.int q), .val (.int (0 : Int32)), .unset, .unset] [(.ref a0)])) t → Steps p.tables e below G0 t := by
    intro t kt
    refine K0 t ?_
    refine XS.iconst X0.here hx rfl (hb hby d2_0) ?_
    show Steps p.tables e below (s₁.setTop (mkF m 1 #[.val (.ref a0), .val (.int q), .unset, .unset, .unset] [(.int (0 : Int32))])) _
    refine XS.istoreN X0.here hx rfl (hb hby d2_1) rfl (l' := #[.val (.ref a0), .val (.int q), .val (.int (0 : Int32)), .unset, .unset]) rfl ?_
    show Steps p.tables e below (s₁.setTop (mkF m 2 #[.val (.ref a0), .val (.int q), .val (.int (0 : Int32)), .unset, .unset] [])) _
    refine XS.aloadN X0.here hx rfl (hb hby d2_2) rfl rfl ?_
    show Steps p.tables e below (s₁.setTop (mkF m 3 #[.val (.ref a0), .val (.int q), .val (.int (0 : Int32)), .unset, .unset] [(.ref a0)])) _
    exact kt
  obtain ⟨cl2, Ar2, qq2, S2, M2, H2, GG2⟩ := id V0
  have K3 : ∀ t, Steps p.tables e below (s₁.setTop (mkF m 40 #[.val (.ref a0), .val (.int q), .val (.int (0 : Int32)), .val (.int (0 : Int32)), .unset] [(.int (0 : Int32))])) t → Steps p.tables e below G0 t := by
    intro t kt
    refine K1 t ?_
    refine X0.arraylength hx (by rw [e0]; exact (Ar2).1) (State.isArrayOf_alike hZ.alike (Ar2).2.1) (g := (mkF m 3 #[.val (.ref a0), .val (.int q), .val (.int (0 : Int32)), .unset, .unset] [(.ref a0)])) rfl rfl (hb hby d2_3) _ ?_
    rw [len_of S2 M2]
    show Steps p.tables e below (s₁.setTop (mkF m 4 #[.val (.ref a0), .val (.int q), .val (.int (0 : Int32)), .unset, .unset] [(.int (0 : Int32))])) _
    refine XS.istoreN X0.here hx rfl (hb hby d2_4) rfl (l' := #[.val (.ref a0), .val (.int q), .val (.int (0 : Int32)), .val (.int (0 : Int32)), .unset]) rfl ?_
    show Steps p.tables e below (s₁.setTop (mkF m 5 #[.val (.ref a0), .val (.int q), .val (.int (0 : Int32)), .val (.int (0 : Int32)), .unset] [])) _
    refine XS.iloadN X0.here hx rfl (hb hby d2_5) rfl ?_
    show Steps p.tables e below (s₁.setTop (mkF m 6 #[.val (.ref a0), .val (.int q), .val (.int (0 : Int32)), .val (.int (0 : Int32)), .unset] [(.int (0 : Int32))])) _
    refine XS.iloadN X0.here hx rfl (hb hby d2_6) rfl ?_
    show Steps p.tables e below (s₁.setTop (mkF m 7 #[.val (.ref a0), .val (.int q), .val (.int (0 : Int32)), .val (.int (0 : Int32)), .unset] [(.int (0 : Int32)), (.int (0 : Int32))])) _
    refine XS.icmpYes X0.here hx rfl (pc0 := 7) (pc' := 39) rfl (hb hby d2_7) rfl (flt (by decide)).2.1 (by decide) (by decide) ?_
    show Steps p.tables e below (s₁.setTop (mkF m 39 #[.val (.ref a0), .val (.int q), .val (.int (0 : Int32)), .val (.int (0 : Int32)), .unset] [])) _
    refine XS.iloadN X0.here hx rfl (hb hby d2_39) rfl ?_
    show Steps p.tables e below (s₁.setTop (mkF m 40 #[.val (.ref a0), .val (.int q), .val (.int (0 : Int32)), .val (.int (0 : Int32)), .unset] [(.int (0 : Int32))])) _
    exact kt
  obtain ⟨fs, hr, hrun, hended, hW, hsame⟩ := X0.leave (v := some (.int (0 : Int32))) (fun h => by rw [Bd.returns] at h; cases h)
  refine ⟨_, _, ?_, hrun, hended, _, _, rfl, ?_, ⟨_, rfl⟩, hW, hsame.mono (by decide) (by decide)⟩
  · rw [← hG0]
    refine K3 _ ?_
    exact retOut X0 hx (t := .int) Bd.returns rfl (Or.inl ⟨rfl, Or.inl rfl, _, rfl⟩) (hb hby d2_40) hr
  · show Q2_0 Z a0 q ka h0 n0 _ s₁.heap _
    rw [e0]
    exact ⟨by simp only [own_inc, if_true, if_false] <;> rfl, N0, rfl⟩
theorem ef_rm2_1 (m : MethodId) (a0 : Addr) (q : Int32) : entryFrame m #[(.ref a0), (.int q)] 5 = (mkF m 0 #[.val (.ref a0), .val (.int q), .unset, .unset, .unset] []) := by first | (simp [entryFrame, mkF, argsToLocals, Value.category]; done) | rfl
def Q2_1 (Z : State) (a0 : Addr) (q : Int32) (ka : ClassId) (y0 : Int32) (h0 : Heap) (n0 : Nat) (v : Option Value) (h : Heap) (L : List Loc) : Prop := v = some (.int (own_inc q y0 (0 : Int32))) ∧ Fr n0 L ∧ h = h0
set_option maxRecDepth 65536 in
set_option maxHeartbeats 40000000 in
theorem rm2_1 (l : Launch) (Z : State) (aa : Array Value) (hw : ∀ d ∈ tables_1, d.before aa Z = true) (ws : List Jvm.Cond) (a0 : Addr) (q : Int32) (ka : ClassId) (y0 : Int32) (h0 : Heap) (n0 : Nat) (Z0 : n0 ≤ h0.size) (V0 : Arv Z h0 a0 ka .int (1 : Int32) [(.int y0)] (.int (0 : Int32))) :
    MetFree l (⟨"com/example/lichen/lichen/analysis/Runs", "countUpTo", "([II)I"⟩ : MethodName) (head1 (Jvm.Cond.code (⟨"com/example/lichen/lichen/analysis/Runs", "countUpTo", "([II)I"⟩ : MethodName) prog_23_method_6_code 5 (some .int) :: ws) ({ frames := 0, cells := 0, slots := 0, locals := 0 } : Room)) (fun a U => a = #[(.ref a0), (.int q)] ∧ Z.Warmed39 U.vm ∧ U.heap = h0) (fun _ _ _ _ _ => True) (fun _ U o U' => ∃ v L, o = .returned v ∧ Q2_1 Z a0 q ka y0 h0 n0 v U'.heap L ∧ FrameEnd U o U' L ({ frames := 0, cells := 0, slots := 0, locals := 0 } : Room).cells ({ frames := 0, cells := 0, slots := 0, locals := 0 } : Room).slots) := by
  refine MetFree.of_bodySF (plainFor_of_name pn_com_example_lichen_lichen_analysis_Runs) hisR ?_
  intro p e s m args below meth c s₁ Bd hml0 hP hK
  obtain ⟨rfl, hZ, hh⟩ := hP
  have hx := Bd.exec
  have hby := Bd.bytes
  have hml : c.maxLocals = 5 := hml0
  have hown : s.vm.findClass "com/example/lichen/lichen/analysis/Runs" = some m.cls := findClass_of_methodNamed Bd.named
  have hnm := (name_of_methodNamed Bd.named Bd.method).1
  have X0 : Stand p l e ({ frames := 0, cells := 0, slots := 0, locals := 0 } : Room) s m #[(.ref a0), (.int q)] below meth c s₁ [] 0 0 := Stand.of_body Bd
  have e0 : s₁.heap = h0 := by rw [← hh, Bd.state]; rfl
  have N0 := Fr.nil n0
  obtain ⟨G0, hG0⟩ : ∃ G, G = s₁.setTop (entryFrame m #[(.ref a0), (.int q)] 5) := ⟨_, rfl⟩
  have K0 : ∀ t, Steps p.tables e below (s₁.setTop (mkF m 0 #[.val (.ref a0), .val (.int q), .unset, .unset, .unset] [])) t → Steps p.tables e below G0 t := fun t k => by rw [hG0]; exact castTop (ef_rm2_1 m a0 q) k
  have K1 : ∀ t, Steps p.tables e below (s₁.setTop (mkF m 3 #[.val (.ref a0), .val (.int q), .val (.int (0 : Int32)), .unset, .unset] [(.ref a0)])) t → Steps p.tables e below G0 t := by
    intro t kt
    refine K0 t ?_
    refine XS.iconst X0.here hx rfl (hb hby d2_0) ?_
    show Steps p.tables e below (s₁.setTop (mkF m 1 #[.val (.ref a0), .val (.int q), .unset, .unset, .unset] [(.int (0 : Int32))])) _
    refine XS.istoreN X0.here hx rfl (hb hby d2_1) rfl (l' := #[.val (.ref a0), .val (.int q), .val (.int (0 : Int32)), .unset, .unset]) rfl ?_
    show Steps p.tables e below (s₁.setTop (mkF m 2 #[.val (.ref a0), .val (.int q), .val (.int (0 : Int32)), .unset, .unset] [])) _
    refine XS.aloadN X0.here hx rfl (hb hby d2_2) rfl rfl ?_
    show Steps p.tables e below (s₁.setTop (mkF m 3 #[.val (.ref a0), .val (.int q), .val (.int (0 : Int32)), .unset, .unset] [(.ref a0)])) _
    exact kt
  obtain ⟨cl2, Ar2, qq2, S2, M2, H2, GG2⟩ := id V0
  have K3 : ∀ t, Steps p.tables e below (s₁.setTop (mkF m 17 #[.val (.ref a0), .val (.int q), .val (.int (0 : Int32)), .val (.int (1 : Int32)), .val (.int ((((0 : Int32) + (1 : Int32)).toUInt32 >>> ((1 : Int32) &&& 31).toUInt32).toInt32))] [])) t → Steps p.tables e below G0 t := by
    intro t kt
    refine K1 t ?_
    refine X0.arraylength hx (by rw [e0]; exact (Ar2).1) (State.isArrayOf_alike hZ.alike (Ar2).2.1) (g := (mkF m 3 #[.val (.ref a0), .val (.int q), .val (.int (0 : Int32)), .unset, .unset] [(.ref a0)])) rfl rfl (hb hby d2_3) _ ?_
    rw [len_of S2 M2]
    show Steps p.tables e below (s₁.setTop (mkF m 4 #[.val (.ref a0), .val (.int q), .val (.int (0 : Int32)), .unset, .unset] [(.int (1 : Int32))])) _
    refine XS.istoreN X0.here hx rfl (hb hby d2_4) rfl (l' := #[.val (.ref a0), .val (.int q), .val (.int (0 : Int32)), .val (.int (1 : Int32)), .unset]) rfl ?_
    show Steps p.tables e below (s₁.setTop (mkF m 5 #[.val (.ref a0), .val (.int q), .val (.int (0 : Int32)), .val (.int (1 : Int32)), .unset] [])) _
    refine XS.iloadN X0.here hx rfl (hb hby d2_5) rfl ?_
    show Steps p.tables e below (s₁.setTop (mkF m 6 #[.val (.ref a0), .val (.int q), .val (.int (0 : Int32)), .val (.int (1 : Int32)), .unset] [(.int (0 : Int32))])) _
    refine XS.iloadN X0.here hx rfl (hb hby d2_6) rfl ?_
    show Steps p.tables e below (s₁.setTop (mkF m 7 #[.val (.ref a0), .val (.int q), .val (.int (0 : Int32)), .val (.int (1 : Int32)), .unset] [(.int (1 : Int32)), (.int (0 : Int32))])) _
    refine XS.icmpNo X0.here hx rfl (hb hby d2_7) rfl (tlt (by decide)).2.1 ?_
    show Steps p.tables e below (s₁.setTop (mkF m 10 #[.val (.ref a0), .val (.int q), .val (.int (0 : Int32)), .val (.int (1 : Int32)), .unset] [])) _
    refine XS.iloadN X0.here hx rfl (hb hby d2_10) rfl ?_
    show Steps p.tables e below (s₁.setTop (mkF m 11 #[.val (.ref a0), .val (.int q), .val (.int (0 : Int32)), .val (.int (1 : Int32)), .unset] [(.int (0 : Int32))])) _
    refine XS.iloadN X0.here hx rfl (hb hby d2_11) rfl ?_
    show Steps p.tables e below (s₁.setTop (mkF m 12 #[.val (.ref a0), .val (.int q), .val (.int (0 : Int32)), .val (.int (1 : Int32)), .unset] [(.int (1 : Int32)), (.int (0 : Int32))])) _
    refine XS.iadd X0.here hx rfl (hb hby d2_12) rfl ?_
    show Steps p.tables e below (s₁.setTop (mkF m 13 #[.val (.ref a0), .val (.int q), .val (.int (0 : Int32)), .val (.int (1 : Int32)), .unset] [(.int ((0 : Int32) + (1 : Int32)))])) _
    refine XS.iconst X0.here hx rfl (hb hby d2_13) ?_
    show Steps p.tables e below (s₁.setTop (mkF m 14 #[.val (.ref a0), .val (.int q), .val (.int (0 : Int32)), .val (.int (1 : Int32)), .unset] [(.int (1 : Int32)), (.int ((0 : Int32) + (1 : Int32)))])) _
    refine XS.iushr X0.here hx rfl (hb hby d2_14) rfl ?_
    show Steps p.tables e below (s₁.setTop (mkF m 15 #[.val (.ref a0), .val (.int q), .val (.int (0 : Int32)), .val (.int (1 : Int32)), .unset] [(.int ((((0 : Int32) + (1 : Int32)).toUInt32 >>> ((1 : Int32) &&& 31).toUInt32).toInt32))])) _
    refine XS.istore X0.here hx rfl (hb hby d2_15) rfl (l' := #[.val (.ref a0), .val (.int q), .val (.int (0 : Int32)), .val (.int (1 : Int32)), .val (.int ((((0 : Int32) + (1 : Int32)).toUInt32 >>> ((1 : Int32) &&& 31).toUInt32).toInt32))]) rfl ?_
    show Steps p.tables e below (s₁.setTop (mkF m 17 #[.val (.ref a0), .val (.int q), .val (.int (0 : Int32)), .val (.int (1 : Int32)), .val (.int ((((0 : Int32) + (1 : Int32)).toUInt32 >>> ((1 : Int32) &&& 31).toUInt32).toInt32))] [])) _
    exact kt
  rw [show ((((0 : Int32) + (1 : Int32)).toUInt32 >>> ((1 : Int32) &&& 31).toUInt32).toInt32) = (0 : Int32) from by decide] at K3
  have K4 : ∀ t, Steps p.tables e below (s₁.setTop (mkF m 20 #[.val (.ref a0), .val (.int q), .val (.int (0 : Int32)), .val (.int (1 : Int32)), .val (.int (0 : Int32))] [(.int (0 : Int32)), (.ref a0)])) t → Steps p.tables e below G0 t := by
    intro t kt
    refine K3 t ?_
    refine XS.aloadN X0.here hx rfl (hb hby d2_17) rfl rfl ?_
    show Steps p.tables e below (s₁.setTop (mkF m 18 #[.val (.ref a0), .val (.int q), .val (.int (0 : Int32)), .val (.int (1 : Int32)), .val (.int (0 : Int32))] [(.ref a0)])) _
    refine XS.iload X0.here hx rfl (hb hby d2_18) rfl ?_
    show Steps p.tables e below (s₁.setTop (mkF m 20 #[.val (.ref a0), .val (.int q), .val (.int (0 : Int32)), .val (.int (1 : Int32)), .val (.int (0 : Int32))] [(.int (0 : Int32)), (.ref a0)])) _
    exact kt
  obtain ⟨cl5, Ar5, qq5, S5, M5, H5, GG5⟩ := id V0
  have hin5 : ¬ ((0 : Int32) < 0 ∨ cl5.slots.size ≤ ((0 : Int32)).toNatClampNeg) := inb_of S5 ⟨by decide, by decide⟩
  have hat5 : cl5.slots[((0 : Int32)).toNatClampNeg]? = some (.int y0) := Has.at H5 hin5 rfl
  have K6 : ∀ t, Steps p.tables e below (s₁.setTop (mkF m 22 #[.val (.ref a0), .val (.int q), .val (.int (0 : Int32)), .val (.int (1 : Int32)), .val (.int (0 : Int32))] [(.int q), (.int y0)])) t → Steps p.tables e below G0 t := by
    intro t kt
    refine K4 t ?_
    refine X0.iaload hx (j := (0 : Int32)) (v := (.int y0)) (by rw [e0]; exact (Ar5).1) (State.isArrayOf_alike hZ.alike (Ar5).2.1) (Ar5).2.2 hin5 hat5 (g := (mkF m 20 #[.val (.ref a0), .val (.int q), .val (.int (0 : Int32)), .val (.int (1 : Int32)), .val (.int (0 : Int32))] [(.int (0 : Int32)), (.ref a0)])) rfl rfl (hb hby d2_20) _ ?_
    show Steps p.tables e below (s₁.setTop (mkF m 21 #[.val (.ref a0), .val (.int q), .val (.int (0 : Int32)), .val (.int (1 : Int32)), .val (.int (0 : Int32))] [(.int y0)])) _
    refine XS.iloadN X0.here hx rfl (hb hby d2_21) rfl ?_
    show Steps p.tables e below (s₁.setTop (mkF m 22 #[.val (.ref a0), .val (.int q), .val (.int (0 : Int32)), .val (.int (1 : Int32)), .val (.int (0 : Int32))] [(.int q), (.int y0)])) _
    exact kt
  by_cases hc7 : q < y0
  ·
    have K8 : ∀ t, Steps p.tables e below (s₁.setTop (mkF m 40 #[.val (.ref a0), .val (.int q), .val (.int (0 : Int32)), .val (.int (0 : Int32)), .val (.int (0 : Int32))] [(.int (0 : Int32))])) t → Steps p.tables e below G0 t := by
      intro t kt
      refine K6 t ?_
      refine XS.icmpYes X0.here hx rfl (pc0 := 22) (pc' := 33) rfl (hb hby d2_22) rfl (tlt hc7).2.2.1 (by decide) (by decide) ?_
      show Steps p.tables e below (s₁.setTop (mkF m 33 #[.val (.ref a0), .val (.int q), .val (.int (0 : Int32)), .val (.int (1 : Int32)), .val (.int (0 : Int32))] [])) _
      refine XS.iload X0.here hx rfl (hb hby d2_33) rfl ?_
      show Steps p.tables e below (s₁.setTop (mkF m 35 #[.val (.ref a0), .val (.int q), .val (.int (0 : Int32)), .val (.int (1 : Int32)), .val (.int (0 : Int32))] [(.int (0 : Int32))])) _
      refine XS.istoreN X0.here hx rfl (hb hby d2_35) rfl (l' := #[.val (.ref a0), .val (.int q), .val (.int (0 : Int32)), .val (.int (0 : Int32)), .val (.int (0 : Int32))]) rfl ?_
      show Steps p.tables e below (s₁.setTop (mkF m 36 #[.val (.ref a0), .val (.int q), .val (.int (0 : Int32)), .val (.int (0 : Int32)), .val (.int (0 : Int32))] [])) _
      refine XS.goto X0.here hx rfl (pc0 := 36) (pc' := 5) rfl (hb hby d2_36) (by decide) (by decide) ?_
      show Steps p.tables e below (s₁.setTop (mkF m 5 #[.val (.ref a0), .val (.int q), .val (.int (0 : Int32)), .val (.int (0 : Int32)), .val (.int (0 : Int32))] [])) _
      refine XS.iloadN X0.here hx rfl (hb hby d2_5) rfl ?_
      show Steps p.tables e below (s₁.setTop (mkF m 6 #[.val (.ref a0), .val (.int q), .val (.int (0 : Int32)), .val (.int (0 : Int32)), .val (.int (0 : Int32))] [(.int (0 : Int32))])) _
      refine XS.iloadN X0.here hx rfl (hb hby d2_6) rfl ?_
      show Steps p.tables e below (s₁.setTop (mkF m 7 #[.val (.ref a0), .val (.int q), .val (.int (0 : Int32)), .val (.int (0 : Int32)), .val (.int (0 : Int32))] [(.int (0 : Int32)), (.int (0 : Int32))])) _
      refine XS.icmpYes X0.here hx rfl (pc0 := 7) (pc' := 39) rfl (hb hby d2_7) rfl (flt (by decide)).2.1 (by decide) (by decide) ?_
      show Steps p.tables e below (s₁.setTop (mkF m 39 #[.val (.ref a0), .val (.int q), .val (.int (0 : Int32)), .val (.int (0 : Int32)), .val (.int (0 : Int32))] [])) _
      refine XS.iloadN X0.here hx rfl (hb hby d2_39) rfl ?_
      show Steps p.tables e below (s₁.setTop (mkF m 40 #[.val (.ref a0), .val (.int q), .val (.int (0 : Int32)), .val (.int (0 : Int32)), .val (.int (0 : Int32))] [(.int (0 : Int32))])) _
      exact kt
    have c0 :  q < y0 := by simp only [Int32.lt_iff_toInt_lt] at *; omega
    obtain ⟨fs, hr, hrun, hended, hW, hsame⟩ := X0.leave (v := some (.int (0 : Int32))) (fun h => by rw [Bd.returns] at h; cases h)
    refine ⟨_, _, ?_, hrun, hended, _, _, rfl, ?_, ⟨_, rfl⟩, hW, hsame.mono (by decide) (by decide)⟩
    · rw [← hG0]
      refine K8 _ ?_
      exact retOut X0 hx (t := .int) Bd.returns rfl (Or.inl ⟨rfl, Or.inl rfl, _, rfl⟩) (hb hby d2_40) hr
    · show Q2_1 Z a0 q ka y0 h0 n0 _ s₁.heap _
      rw [e0]
      exact ⟨by simp only [own_inc, c0, if_true, if_false] <;> rfl, N0, rfl⟩
  ·
    have K9 : ∀ t, Steps p.tables e below (s₁.setTop (mkF m 5 #[.val (.ref a0), .val (.int q), .val (.int ((0 : Int32) + (1 : Int32))), .val (.int (1 : Int32)), .val (.int (0 : Int32))] [])) t → Steps p.tables e below G0 t := by
      intro t kt
      refine K6 t ?_
      refine XS.icmpNo X0.here hx rfl (hb hby d2_22) rfl (flt hc7).2.2.1 ?_
      show Steps p.tables e below (s₁.setTop (mkF m 25 #[.val (.ref a0), .val (.int q), .val (.int (0 : Int32)), .val (.int (1 : Int32)), .val (.int (0 : Int32))] [])) _
      refine XS.iload X0.here hx rfl (hb hby d2_25) rfl ?_
      show Steps p.tables e below (s₁.setTop (mkF m 27 #[.val (.ref a0), .val (.int q), .val (.int (0 : Int32)), .val (.int (1 : Int32)), .val (.int (0 : Int32))] [(.int (0 : Int32))])) _
      refine XS.iconst X0.here hx rfl (hb hby d2_27) ?_
      show Steps p.tables e below (s₁.setTop (mkF m 28 #[.val (.ref a0), .val (.int q), .val (.int (0 : Int32)), .val (.int (1 : Int32)), .val (.int (0 : Int32))] [(.int (1 : Int32)), (.int (0 : Int32))])) _
      refine XS.iadd X0.here hx rfl (hb hby d2_28) rfl ?_
      show Steps p.tables e below (s₁.setTop (mkF m 29 #[.val (.ref a0), .val (.int q), .val (.int (0 : Int32)), .val (.int (1 : Int32)), .val (.int (0 : Int32))] [(.int ((0 : Int32) + (1 : Int32)))])) _
      refine XS.istoreN X0.here hx rfl (hb hby d2_29) rfl (l' := #[.val (.ref a0), .val (.int q), .val (.int ((0 : Int32) + (1 : Int32))), .val (.int (1 : Int32)), .val (.int (0 : Int32))]) rfl ?_
      show Steps p.tables e below (s₁.setTop (mkF m 30 #[.val (.ref a0), .val (.int q), .val (.int ((0 : Int32) + (1 : Int32))), .val (.int (1 : Int32)), .val (.int (0 : Int32))] [])) _
      refine XS.goto X0.here hx rfl (pc0 := 30) (pc' := 36) rfl (hb hby d2_30) (by decide) (by decide) ?_
      show Steps p.tables e below (s₁.setTop (mkF m 36 #[.val (.ref a0), .val (.int q), .val (.int ((0 : Int32) + (1 : Int32))), .val (.int (1 : Int32)), .val (.int (0 : Int32))] [])) _
      refine XS.goto X0.here hx rfl (pc0 := 36) (pc' := 5) rfl (hb hby d2_36) (by decide) (by decide) ?_
      show Steps p.tables e below (s₁.setTop (mkF m 5 #[.val (.ref a0), .val (.int q), .val (.int ((0 : Int32) + (1 : Int32))), .val (.int (1 : Int32)), .val (.int (0 : Int32))] [])) _
      exact kt
    rw [show ((0 : Int32) + (1 : Int32)) = (1 : Int32) from by decide] at K9
    have K10 : ∀ t, Steps p.tables e below (s₁.setTop (mkF m 40 #[.val (.ref a0), .val (.int q), .val (.int (1 : Int32)), .val (.int (1 : Int32)), .val (.int (0 : Int32))] [(.int (1 : Int32))])) t → Steps p.tables e below G0 t := by
      intro t kt
      refine K9 t ?_
      refine XS.iloadN X0.here hx rfl (hb hby d2_5) rfl ?_
      show Steps p.tables e below (s₁.setTop (mkF m 6 #[.val (.ref a0), .val (.int q), .val (.int (1 : Int32)), .val (.int (1 : Int32)), .val (.int (0 : Int32))] [(.int (1 : Int32))])) _
      refine XS.iloadN X0.here hx rfl (hb hby d2_6) rfl ?_
      show Steps p.tables e below (s₁.setTop (mkF m 7 #[.val (.ref a0), .val (.int q), .val (.int (1 : Int32)), .val (.int (1 : Int32)), .val (.int (0 : Int32))] [(.int (1 : Int32)), (.int (1 : Int32))])) _
      refine XS.icmpYes X0.here hx rfl (pc0 := 7) (pc' := 39) rfl (hb hby d2_7) rfl (flt (by decide)).2.1 (by decide) (by decide) ?_
      show Steps p.tables e below (s₁.setTop (mkF m 39 #[.val (.ref a0), .val (.int q), .val (.int (1 : Int32)), .val (.int (1 : Int32)), .val (.int (0 : Int32))] [])) _
      refine XS.iloadN X0.here hx rfl (hb hby d2_39) rfl ?_
      show Steps p.tables e below (s₁.setTop (mkF m 40 #[.val (.ref a0), .val (.int q), .val (.int (1 : Int32)), .val (.int (1 : Int32)), .val (.int (0 : Int32))] [(.int (1 : Int32))])) _
      exact kt
    have c0 : ¬ q < y0 := by simp only [Int32.lt_iff_toInt_lt] at *; omega
    obtain ⟨fs, hr, hrun, hended, hW, hsame⟩ := X0.leave (v := some (.int (1 : Int32))) (fun h => by rw [Bd.returns] at h; cases h)
    refine ⟨_, _, ?_, hrun, hended, _, _, rfl, ?_, ⟨_, rfl⟩, hW, hsame.mono (by decide) (by decide)⟩
    · rw [← hG0]
      refine K10 _ ?_
      exact retOut X0 hx (t := .int) Bd.returns rfl (Or.inl ⟨rfl, Or.inl rfl, _, rfl⟩) (hb hby d2_40) hr
    · show Q2_1 Z a0 q ka y0 h0 n0 _ s₁.heap _
      rw [e0]
      exact ⟨by simp only [own_inc, c0, if_true, if_false] <;> rfl, N0, rfl⟩
theorem ef_rm2_2 (m : MethodId) (a0 : Addr) (q : Int32) : entryFrame m #[(.ref a0), (.int q)] 5 = (mkF m 0 #[.val (.ref a0), .val (.int q), .unset, .unset, .unset] []) := by first | (simp [entryFrame, mkF, argsToLocals, Value.category]; done) | rfl
def Q2_2 (Z : State) (a0 : Addr) (q : Int32) (ka : ClassId) (y0 : Int32) (y1 : Int32) (h0 : Heap) (n0 : Nat) (v : Option Value) (h : Heap) (L : List Loc) : Prop := v = some (.int (own_inc q y1 (own_inc q y0 (0 : Int32)))) ∧ Fr n0 L ∧ h = h0
set_option maxRecDepth 65536 in
set_option maxHeartbeats 40000000 in
theorem rm2_2 (l : Launch) (Z : State) (aa : Array Value) (hw : ∀ d ∈ tables_1, d.before aa Z = true) (ws : List Jvm.Cond) (a0 : Addr) (q : Int32) (ka : ClassId) (y0 : Int32) (y1 : Int32) (h0 : Heap) (n0 : Nat) (Z0 : n0 ≤ h0.size) (V0 : Arv Z h0 a0 ka .int (2 : Int32) [(.int y0), (.int y1)] (.int (0 : Int32))) (o0 : y0.toInt ≤ y1.toInt) :
    MetFree l (⟨"com/example/lichen/lichen/analysis/Runs", "countUpTo", "([II)I"⟩ : MethodName) (head1 (Jvm.Cond.code (⟨"com/example/lichen/lichen/analysis/Runs", "countUpTo", "([II)I"⟩ : MethodName) prog_23_method_6_code 5 (some .int) :: ws) ({ frames := 0, cells := 0, slots := 0, locals := 0 } : Room)) (fun a U => a = #[(.ref a0), (.int q)] ∧ Z.Warmed39 U.vm ∧ U.heap = h0) (fun _ _ _ _ _ => True) (fun _ U o U' => ∃ v L, o = .returned v ∧ Q2_2 Z a0 q ka y0 y1 h0 n0 v U'.heap L ∧ FrameEnd U o U' L ({ frames := 0, cells := 0, slots := 0, locals := 0 } : Room).cells ({ frames := 0, cells := 0, slots := 0, locals := 0 } : Room).slots) := by
  refine MetFree.of_bodySF (plainFor_of_name pn_com_example_lichen_lichen_analysis_Runs) hisR ?_
  intro p e s m args below meth c s₁ Bd hml0 hP hK
  obtain ⟨rfl, hZ, hh⟩ := hP
  have hx := Bd.exec
  have hby := Bd.bytes
  have hml : c.maxLocals = 5 := hml0
  have hown : s.vm.findClass "com/example/lichen/lichen/analysis/Runs" = some m.cls := findClass_of_methodNamed Bd.named
  have hnm := (name_of_methodNamed Bd.named Bd.method).1
  have X0 : Stand p l e ({ frames := 0, cells := 0, slots := 0, locals := 0 } : Room) s m #[(.ref a0), (.int q)] below meth c s₁ [] 0 0 := Stand.of_body Bd
  have e0 : s₁.heap = h0 := by rw [← hh, Bd.state]; rfl
  have N0 := Fr.nil n0
  obtain ⟨G0, hG0⟩ : ∃ G, G = s₁.setTop (entryFrame m #[(.ref a0), (.int q)] 5) := ⟨_, rfl⟩
  have K0 : ∀ t, Steps p.tables e below (s₁.setTop (mkF m 0 #[.val (.ref a0), .val (.int q), .unset, .unset, .unset] [])) t → Steps p.tables e below G0 t := fun t k => by rw [hG0]; exact castTop (ef_rm2_2 m a0 q) k
  have K1 : ∀ t, Steps p.tables e below (s₁.setTop (mkF m 3 #[.val (.ref a0), .val (.int q), .val (.int (0 : Int32)), .unset, .unset] [(.ref a0)])) t → Steps p.tables e below G0 t := by
    intro t kt
    refine K0 t ?_
    refine XS.iconst X0.here hx rfl (hb hby d2_0) ?_
    show Steps p.tables e below (s₁.setTop (mkF m 1 #[.val (.ref a0), .val (.int q), .unset, .unset, .unset] [(.int (0 : Int32))])) _
    refine XS.istoreN X0.here hx rfl (hb hby d2_1) rfl (l' := #[.val (.ref a0), .val (.int q), .val (.int (0 : Int32)), .unset, .unset]) rfl ?_
    show Steps p.tables e below (s₁.setTop (mkF m 2 #[.val (.ref a0), .val (.int q), .val (.int (0 : Int32)), .unset, .unset] [])) _
    refine XS.aloadN X0.here hx rfl (hb hby d2_2) rfl rfl ?_
    show Steps p.tables e below (s₁.setTop (mkF m 3 #[.val (.ref a0), .val (.int q), .val (.int (0 : Int32)), .unset, .unset] [(.ref a0)])) _
    exact kt
  obtain ⟨cl2, Ar2, qq2, S2, M2, H2, GG2⟩ := id V0
  have K3 : ∀ t, Steps p.tables e below (s₁.setTop (mkF m 17 #[.val (.ref a0), .val (.int q), .val (.int (0 : Int32)), .val (.int (2 : Int32)), .val (.int ((((0 : Int32) + (2 : Int32)).toUInt32 >>> ((1 : Int32) &&& 31).toUInt32).toInt32))] [])) t → Steps p.tables e below G0 t := by
    intro t kt
    refine K1 t ?_
    refine X0.arraylength hx (by rw [e0]; exact (Ar2).1) (State.isArrayOf_alike hZ.alike (Ar2).2.1) (g := (mkF m 3 #[.val (.ref a0), .val (.int q), .val (.int (0 : Int32)), .unset, .unset] [(.ref a0)])) rfl rfl (hb hby d2_3) _ ?_
    rw [len_of S2 M2]
    show Steps p.tables e below (s₁.setTop (mkF m 4 #[.val (.ref a0), .val (.int q), .val (.int (0 : Int32)), .unset, .unset] [(.int (2 : Int32))])) _
    refine XS.istoreN X0.here hx rfl (hb hby d2_4) rfl (l' := #[.val (.ref a0), .val (.int q), .val (.int (0 : Int32)), .val (.int (2 : Int32)), .unset]) rfl ?_
    show Steps p.tables e below (s₁.setTop (mkF m 5 #[.val (.ref a0), .val (.int q), .val (.int (0 : Int32)), .val (.int (2 : Int32)), .unset] [])) _
    refine XS.iloadN X0.here hx rfl (hb hby d2_5) rfl ?_
    show Steps p.tables e below (s₁.setTop (mkF m 6 #[.val (.ref a0), .val (.int q), .val (.int (0 : Int32)), .val (.int (2 : Int32)), .unset] [(.int (0 : Int32))])) _
    refine XS.iloadN X0.here hx rfl (hb hby d2_6) rfl ?_
    show Steps p.tables e below (s₁.setTop (mkF m 7 #[.val (.ref a0), .val (.int q), .val (.int (0 : Int32)), .val (.int (2 : Int32)), .unset] [(.int (2 : Int32)), (.int (0 : Int32))])) _
    refine XS.icmpNo X0.here hx rfl (hb hby d2_7) rfl (tlt (by decide)).2.1 ?_
    show Steps p.tables e below (s₁.setTop (mkF m 10 #[.val (.ref a0), .val (.int q), .val (.int (0 : Int32)), .val (.int (2 : Int32)), .unset] [])) _
    refine XS.iloadN X0.here hx rfl (hb hby d2_10) rfl ?_
    show Steps p.tables e below (s₁.setTop (mkF m 11 #[.val (.ref a0), .val (.int q), .val (.int (0 : Int32)), .val (.int (2 : Int32)), .unset] [(.int (0 : Int32))])) _
    refine XS.iloadN X0.here hx rfl (hb hby d2_11) rfl ?_
    show Steps p.tables e below (s₁.setTop (mkF m 12 #[.val (.ref a0), .val (.int q), .val (.int (0 : Int32)), .val (.int (2 : Int32)), .unset] [(.int (2 : Int32)), (.int (0 : Int32))])) _
    refine XS.iadd X0.here hx rfl (hb hby d2_12) rfl ?_
    show Steps p.tables e below (s₁.setTop (mkF m 13 #[.val (.ref a0), .val (.int q), .val (.int (0 : Int32)), .val (.int (2 : Int32)), .unset] [(.int ((0 : Int32) + (2 : Int32)))])) _
    refine XS.iconst X0.here hx rfl (hb hby d2_13) ?_
    show Steps p.tables e below (s₁.setTop (mkF m 14 #[.val (.ref a0), .val (.int q), .val (.int (0 : Int32)), .val (.int (2 : Int32)), .unset] [(.int (1 : Int32)), (.int ((0 : Int32) + (2 : Int32)))])) _
    refine XS.iushr X0.here hx rfl (hb hby d2_14) rfl ?_
    show Steps p.tables e below (s₁.setTop (mkF m 15 #[.val (.ref a0), .val (.int q), .val (.int (0 : Int32)), .val (.int (2 : Int32)), .unset] [(.int ((((0 : Int32) + (2 : Int32)).toUInt32 >>> ((1 : Int32) &&& 31).toUInt32).toInt32))])) _
    refine XS.istore X0.here hx rfl (hb hby d2_15) rfl (l' := #[.val (.ref a0), .val (.int q), .val (.int (0 : Int32)), .val (.int (2 : Int32)), .val (.int ((((0 : Int32) + (2 : Int32)).toUInt32 >>> ((1 : Int32) &&& 31).toUInt32).toInt32))]) rfl ?_
    show Steps p.tables e below (s₁.setTop (mkF m 17 #[.val (.ref a0), .val (.int q), .val (.int (0 : Int32)), .val (.int (2 : Int32)), .val (.int ((((0 : Int32) + (2 : Int32)).toUInt32 >>> ((1 : Int32) &&& 31).toUInt32).toInt32))] [])) _
    exact kt
  rw [show ((((0 : Int32) + (2 : Int32)).toUInt32 >>> ((1 : Int32) &&& 31).toUInt32).toInt32) = (1 : Int32) from by decide] at K3
  have K4 : ∀ t, Steps p.tables e below (s₁.setTop (mkF m 20 #[.val (.ref a0), .val (.int q), .val (.int (0 : Int32)), .val (.int (2 : Int32)), .val (.int (1 : Int32))] [(.int (1 : Int32)), (.ref a0)])) t → Steps p.tables e below G0 t := by
    intro t kt
    refine K3 t ?_
    refine XS.aloadN X0.here hx rfl (hb hby d2_17) rfl rfl ?_
    show Steps p.tables e below (s₁.setTop (mkF m 18 #[.val (.ref a0), .val (.int q), .val (.int (0 : Int32)), .val (.int (2 : Int32)), .val (.int (1 : Int32))] [(.ref a0)])) _
    refine XS.iload X0.here hx rfl (hb hby d2_18) rfl ?_
    show Steps p.tables e below (s₁.setTop (mkF m 20 #[.val (.ref a0), .val (.int q), .val (.int (0 : Int32)), .val (.int (2 : Int32)), .val (.int (1 : Int32))] [(.int (1 : Int32)), (.ref a0)])) _
    exact kt
  obtain ⟨cl5, Ar5, qq5, S5, M5, H5, GG5⟩ := id V0
  have hin5 : ¬ ((1 : Int32) < 0 ∨ cl5.slots.size ≤ ((1 : Int32)).toNatClampNeg) := inb_of S5 ⟨by decide, by decide⟩
  have hat5 : cl5.slots[((1 : Int32)).toNatClampNeg]? = some (.int y1) := Has.at H5 hin5 rfl
  have K6 : ∀ t, Steps p.tables e below (s₁.setTop (mkF m 22 #[.val (.ref a0), .val (.int q), .val (.int (0 : Int32)), .val (.int (2 : Int32)), .val (.int (1 : Int32))] [(.int q), (.int y1)])) t → Steps p.tables e below G0 t := by
    intro t kt
    refine K4 t ?_
    refine X0.iaload hx (j := (1 : Int32)) (v := (.int y1)) (by rw [e0]; exact (Ar5).1) (State.isArrayOf_alike hZ.alike (Ar5).2.1) (Ar5).2.2 hin5 hat5 (g := (mkF m 20 #[.val (.ref a0), .val (.int q), .val (.int (0 : Int32)), .val (.int (2 : Int32)), .val (.int (1 : Int32))] [(.int (1 : Int32)), (.ref a0)])) rfl rfl (hb hby d2_20) _ ?_
    show Steps p.tables e below (s₁.setTop (mkF m 21 #[.val (.ref a0), .val (.int q), .val (.int (0 : Int32)), .val (.int (2 : Int32)), .val (.int (1 : Int32))] [(.int y1)])) _
    refine XS.iloadN X0.here hx rfl (hb hby d2_21) rfl ?_
    show Steps p.tables e below (s₁.setTop (mkF m 22 #[.val (.ref a0), .val (.int q), .val (.int (0 : Int32)), .val (.int (2 : Int32)), .val (.int (1 : Int32))] [(.int q), (.int y1)])) _
    exact kt
  by_cases hc7 : q < y1
  ·
    have K8 : ∀ t, Steps p.tables e below (s₁.setTop (mkF m 17 #[.val (.ref a0), .val (.int q), .val (.int (0 : Int32)), .val (.int (1 : Int32)), .val (.int ((((0 : Int32) + (1 : Int32)).toUInt32 >>> ((1 : Int32) &&& 31).toUInt32).toInt32))] [])) t → Steps p.tables e below G0 t := by
      intro t kt
      refine K6 t ?_
      refine XS.icmpYes X0.here hx rfl (pc0 := 22) (pc' := 33) rfl (hb hby d2_22) rfl (tlt hc7).2.2.1 (by decide) (by decide) ?_
      show Steps p.tables e below (s₁.setTop (mkF m 33 #[.val (.ref a0), .val (.int q), .val (.int (0 : Int32)), .val (.int (2 : Int32)), .val (.int (1 : Int32))] [])) _
      refine XS.iload X0.here hx rfl (hb hby d2_33) rfl ?_
      show Steps p.tables e below (s₁.setTop (mkF m 35 #[.val (.ref a0), .val (.int q), .val (.int (0 : Int32)), .val (.int (2 : Int32)), .val (.int (1 : Int32))] [(.int (1 : Int32))])) _
      refine XS.istoreN X0.here hx rfl (hb hby d2_35) rfl (l' := #[.val (.ref a0), .val (.int q), .val (.int (0 : Int32)), .val (.int (1 : Int32)), .val (.int (1 : Int32))]) rfl ?_
      show Steps p.tables e below (s₁.setTop (mkF m 36 #[.val (.ref a0), .val (.int q), .val (.int (0 : Int32)), .val (.int (1 : Int32)), .val (.int (1 : Int32))] [])) _
      refine XS.goto X0.here hx rfl (pc0 := 36) (pc' := 5) rfl (hb hby d2_36) (by decide) (by decide) ?_
      show Steps p.tables e below (s₁.setTop (mkF m 5 #[.val (.ref a0), .val (.int q), .val (.int (0 : Int32)), .val (.int (1 : Int32)), .val (.int (1 : Int32))] [])) _
      refine XS.iloadN X0.here hx rfl (hb hby d2_5) rfl ?_
      show Steps p.tables e below (s₁.setTop (mkF m 6 #[.val (.ref a0), .val (.int q), .val (.int (0 : Int32)), .val (.int (1 : Int32)), .val (.int (1 : Int32))] [(.int (0 : Int32))])) _
      refine XS.iloadN X0.here hx rfl (hb hby d2_6) rfl ?_
      show Steps p.tables e below (s₁.setTop (mkF m 7 #[.val (.ref a0), .val (.int q), .val (.int (0 : Int32)), .val (.int (1 : Int32)), .val (.int (1 : Int32))] [(.int (1 : Int32)), (.int (0 : Int32))])) _
      refine XS.icmpNo X0.here hx rfl (hb hby d2_7) rfl (tlt (by decide)).2.1 ?_
      show Steps p.tables e below (s₁.setTop (mkF m 10 #[.val (.ref a0), .val (.int q), .val (.int (0 : Int32)), .val (.int (1 : Int32)), .val (.int (1 : Int32))] [])) _
      refine XS.iloadN X0.here hx rfl (hb hby d2_10) rfl ?_
      show Steps p.tables e below (s₁.setTop (mkF m 11 #[.val (.ref a0), .val (.int q), .val (.int (0 : Int32)), .val (.int (1 : Int32)), .val (.int (1 : Int32))] [(.int (0 : Int32))])) _
      refine XS.iloadN X0.here hx rfl (hb hby d2_11) rfl ?_
      show Steps p.tables e below (s₁.setTop (mkF m 12 #[.val (.ref a0), .val (.int q), .val (.int (0 : Int32)), .val (.int (1 : Int32)), .val (.int (1 : Int32))] [(.int (1 : Int32)), (.int (0 : Int32))])) _
      refine XS.iadd X0.here hx rfl (hb hby d2_12) rfl ?_
      show Steps p.tables e below (s₁.setTop (mkF m 13 #[.val (.ref a0), .val (.int q), .val (.int (0 : Int32)), .val (.int (1 : Int32)), .val (.int (1 : Int32))] [(.int ((0 : Int32) + (1 : Int32)))])) _
      refine XS.iconst X0.here hx rfl (hb hby d2_13) ?_
      show Steps p.tables e below (s₁.setTop (mkF m 14 #[.val (.ref a0), .val (.int q), .val (.int (0 : Int32)), .val (.int (1 : Int32)), .val (.int (1 : Int32))] [(.int (1 : Int32)), (.int ((0 : Int32) + (1 : Int32)))])) _
      refine XS.iushr X0.here hx rfl (hb hby d2_14) rfl ?_
      show Steps p.tables e below (s₁.setTop (mkF m 15 #[.val (.ref a0), .val (.int q), .val (.int (0 : Int32)), .val (.int (1 : Int32)), .val (.int (1 : Int32))] [(.int ((((0 : Int32) + (1 : Int32)).toUInt32 >>> ((1 : Int32) &&& 31).toUInt32).toInt32))])) _
      refine XS.istore X0.here hx rfl (hb hby d2_15) rfl (l' := #[.val (.ref a0), .val (.int q), .val (.int (0 : Int32)), .val (.int (1 : Int32)), .val (.int ((((0 : Int32) + (1 : Int32)).toUInt32 >>> ((1 : Int32) &&& 31).toUInt32).toInt32))]) rfl ?_
      show Steps p.tables e below (s₁.setTop (mkF m 17 #[.val (.ref a0), .val (.int q), .val (.int (0 : Int32)), .val (.int (1 : Int32)), .val (.int ((((0 : Int32) + (1 : Int32)).toUInt32 >>> ((1 : Int32) &&& 31).toUInt32).toInt32))] [])) _
      exact kt
    rw [show ((((0 : Int32) + (1 : Int32)).toUInt32 >>> ((1 : Int32) &&& 31).toUInt32).toInt32) = (0 : Int32) from by decide] at K8
    have K9 : ∀ t, Steps p.tables e below (s₁.setTop (mkF m 20 #[.val (.ref a0), .val (.int q), .val (.int (0 : Int32)), .val (.int (1 : Int32)), .val (.int (0 : Int32))] [(.int (0 : Int32)), (.ref a0)])) t → Steps p.tables e below G0 t := by
      intro t kt
      refine K8 t ?_
      refine XS.aloadN X0.here hx rfl (hb hby d2_17) rfl rfl ?_
      show Steps p.tables e below (s₁.setTop (mkF m 18 #[.val (.ref a0), .val (.int q), .val (.int (0 : Int32)), .val (.int (1 : Int32)), .val (.int (0 : Int32))] [(.ref a0)])) _
      refine XS.iload X0.here hx rfl (hb hby d2_18) rfl ?_
      show Steps p.tables e below (s₁.setTop (mkF m 20 #[.val (.ref a0), .val (.int q), .val (.int (0 : Int32)), .val (.int (1 : Int32)), .val (.int (0 : Int32))] [(.int (0 : Int32)), (.ref a0)])) _
      exact kt
    obtain ⟨cl10, Ar10, qq10, S10, M10, H10, GG10⟩ := id V0
    have hin10 : ¬ ((0 : Int32) < 0 ∨ cl10.slots.size ≤ ((0 : Int32)).toNatClampNeg) := inb_of S10 ⟨by decide, by decide⟩
    have hat10 : cl10.slots[((0 : Int32)).toNatClampNeg]? = some (.int y0) := Has.at H10 hin10 rfl
    have K11 : ∀ t, Steps p.tables e below (s₁.setTop (mkF m 22 #[.val (.ref a0), .val (.int q), .val (.int (0 : Int32)), .val (.int (1 : Int32)), .val (.int (0 : Int32))] [(.int q), (.int y0)])) t → Steps p.tables e below G0 t := by
      intro t kt
      refine K9 t ?_
      refine X0.iaload hx (j := (0 : Int32)) (v := (.int y0)) (by rw [e0]; exact (Ar10).1) (State.isArrayOf_alike hZ.alike (Ar10).2.1) (Ar10).2.2 hin10 hat10 (g := (mkF m 20 #[.val (.ref a0), .val (.int q), .val (.int (0 : Int32)), .val (.int (1 : Int32)), .val (.int (0 : Int32))] [(.int (0 : Int32)), (.ref a0)])) rfl rfl (hb hby d2_20) _ ?_
      show Steps p.tables e below (s₁.setTop (mkF m 21 #[.val (.ref a0), .val (.int q), .val (.int (0 : Int32)), .val (.int (1 : Int32)), .val (.int (0 : Int32))] [(.int y0)])) _
      refine XS.iloadN X0.here hx rfl (hb hby d2_21) rfl ?_
      show Steps p.tables e below (s₁.setTop (mkF m 22 #[.val (.ref a0), .val (.int q), .val (.int (0 : Int32)), .val (.int (1 : Int32)), .val (.int (0 : Int32))] [(.int q), (.int y0)])) _
      exact kt
    by_cases hc12 : q < y0
    ·
      have K13 : ∀ t, Steps p.tables e below (s₁.setTop (mkF m 40 #[.val (.ref a0), .val (.int q), .val (.int (0 : Int32)), .val (.int (0 : Int32)), .val (.int (0 : Int32))] [(.int (0 : Int32))])) t → Steps p.tables e below G0 t := by
        intro t kt
        refine K11 t ?_
        refine XS.icmpYes X0.here hx rfl (pc0 := 22) (pc' := 33) rfl (hb hby d2_22) rfl (tlt hc12).2.2.1 (by decide) (by decide) ?_
        show Steps p.tables e below (s₁.setTop (mkF m 33 #[.val (.ref a0), .val (.int q), .val (.int (0 : Int32)), .val (.int (1 : Int32)), .val (.int (0 : Int32))] [])) _
        refine XS.iload X0.here hx rfl (hb hby d2_33) rfl ?_
        show Steps p.tables e below (s₁.setTop (mkF m 35 #[.val (.ref a0), .val (.int q), .val (.int (0 : Int32)), .val (.int (1 : Int32)), .val (.int (0 : Int32))] [(.int (0 : Int32))])) _
        refine XS.istoreN X0.here hx rfl (hb hby d2_35) rfl (l' := #[.val (.ref a0), .val (.int q), .val (.int (0 : Int32)), .val (.int (0 : Int32)), .val (.int (0 : Int32))]) rfl ?_
        show Steps p.tables e below (s₁.setTop (mkF m 36 #[.val (.ref a0), .val (.int q), .val (.int (0 : Int32)), .val (.int (0 : Int32)), .val (.int (0 : Int32))] [])) _
        refine XS.goto X0.here hx rfl (pc0 := 36) (pc' := 5) rfl (hb hby d2_36) (by decide) (by decide) ?_
        show Steps p.tables e below (s₁.setTop (mkF m 5 #[.val (.ref a0), .val (.int q), .val (.int (0 : Int32)), .val (.int (0 : Int32)), .val (.int (0 : Int32))] [])) _
        refine XS.iloadN X0.here hx rfl (hb hby d2_5) rfl ?_
        show Steps p.tables e below (s₁.setTop (mkF m 6 #[.val (.ref a0), .val (.int q), .val (.int (0 : Int32)), .val (.int (0 : Int32)), .val (.int (0 : Int32))] [(.int (0 : Int32))])) _
        refine XS.iloadN X0.here hx rfl (hb hby d2_6) rfl ?_
        show Steps p.tables e below (s₁.setTop (mkF m 7 #[.val (.ref a0), .val (.int q), .val (.int (0 : Int32)), .val (.int (0 : Int32)), .val (.int (0 : Int32))] [(.int (0 : Int32)), (.int (0 : Int32))])) _
        refine XS.icmpYes X0.here hx rfl (pc0 := 7) (pc' := 39) rfl (hb hby d2_7) rfl (flt (by decide)).2.1 (by decide) (by decide) ?_
        show Steps p.tables e below (s₁.setTop (mkF m 39 #[.val (.ref a0), .val (.int q), .val (.int (0 : Int32)), .val (.int (0 : Int32)), .val (.int (0 : Int32))] [])) _
        refine XS.iloadN X0.here hx rfl (hb hby d2_39) rfl ?_
        show Steps p.tables e below (s₁.setTop (mkF m 40 #[.val (.ref a0), .val (.int q), .val (.int (0 : Int32)), .val (.int (0 : Int32)), .val (.int (0 : Int32))] [(.int (0 : Int32))])) _
        exact kt
      have c0 :  q < y0 := by simp only [Int32.lt_iff_toInt_lt] at *; omega
      have c1 :  q < y1 := by simp only [Int32.lt_iff_toInt_lt] at *; omega
      obtain ⟨fs, hr, hrun, hended, hW, hsame⟩ := X0.leave (v := some (.int (0 : Int32))) (fun h => by rw [Bd.returns] at h; cases h)
      refine ⟨_, _, ?_, hrun, hended, _, _, rfl, ?_, ⟨_, rfl⟩, hW, hsame.mono (by decide) (by decide)⟩
      · rw [← hG0]
        refine K13 _ ?_
        exact retOut X0 hx (t := .int) Bd.returns rfl (Or.inl ⟨rfl, Or.inl rfl, _, rfl⟩) (hb hby d2_40) hr
      · show Q2_2 Z a0 q ka y0 y1 h0 n0 _ s₁.heap _
        rw [e0]
        exact ⟨by simp only [own_inc, c0, c1, if_true, if_false] <;> rfl, N0, rfl⟩
    ·
      have K14 : ∀ t, Steps p.tables e below (s₁.setTop (mkF m 5 #[.val (.ref a0), .val (.int q), .val (.int ((0 : Int32) + (1 : Int32))), .val (.int (1 : Int32)), .val (.int (0 : Int32))] [])) t → Steps p.tables e below G0 t := by
        intro t kt
        refine K11 t ?_
        refine XS.icmpNo X0.here hx rfl (hb hby d2_22) rfl (flt hc12).2.2.1 ?_
        show Steps p.tables e below (s₁.setTop (mkF m 25 #[.val (.ref a0), .val (.int q), .val (.int (0 : Int32)), .val (.int (1 : Int32)), .val (.int (0 : Int32))] [])) _
        refine XS.iload X0.here hx rfl (hb hby d2_25) rfl ?_
        show Steps p.tables e below (s₁.setTop (mkF m 27 #[.val (.ref a0), .val (.int q), .val (.int (0 : Int32)), .val (.int (1 : Int32)), .val (.int (0 : Int32))] [(.int (0 : Int32))])) _
        refine XS.iconst X0.here hx rfl (hb hby d2_27) ?_
        show Steps p.tables e below (s₁.setTop (mkF m 28 #[.val (.ref a0), .val (.int q), .val (.int (0 : Int32)), .val (.int (1 : Int32)), .val (.int (0 : Int32))] [(.int (1 : Int32)), (.int (0 : Int32))])) _
        refine XS.iadd X0.here hx rfl (hb hby d2_28) rfl ?_
        show Steps p.tables e below (s₁.setTop (mkF m 29 #[.val (.ref a0), .val (.int q), .val (.int (0 : Int32)), .val (.int (1 : Int32)), .val (.int (0 : Int32))] [(.int ((0 : Int32) + (1 : Int32)))])) _
        refine XS.istoreN X0.here hx rfl (hb hby d2_29) rfl (l' := #[.val (.ref a0), .val (.int q), .val (.int ((0 : Int32) + (1 : Int32))), .val (.int (1 : Int32)), .val (.int (0 : Int32))]) rfl ?_
        show Steps p.tables e below (s₁.setTop (mkF m 30 #[.val (.ref a0), .val (.int q), .val (.int ((0 : Int32) + (1 : Int32))), .val (.int (1 : Int32)), .val (.int (0 : Int32))] [])) _
        refine XS.goto X0.here hx rfl (pc0 := 30) (pc' := 36) rfl (hb hby d2_30) (by decide) (by decide) ?_
        show Steps p.tables e below (s₁.setTop (mkF m 36 #[.val (.ref a0), .val (.int q), .val (.int ((0 : Int32) + (1 : Int32))), .val (.int (1 : Int32)), .val (.int (0 : Int32))] [])) _
        refine XS.goto X0.here hx rfl (pc0 := 36) (pc' := 5) rfl (hb hby d2_36) (by decide) (by decide) ?_
        show Steps p.tables e below (s₁.setTop (mkF m 5 #[.val (.ref a0), .val (.int q), .val (.int ((0 : Int32) + (1 : Int32))), .val (.int (1 : Int32)), .val (.int (0 : Int32))] [])) _
        exact kt
      rw [show ((0 : Int32) + (1 : Int32)) = (1 : Int32) from by decide] at K14
      have K15 : ∀ t, Steps p.tables e below (s₁.setTop (mkF m 40 #[.val (.ref a0), .val (.int q), .val (.int (1 : Int32)), .val (.int (1 : Int32)), .val (.int (0 : Int32))] [(.int (1 : Int32))])) t → Steps p.tables e below G0 t := by
        intro t kt
        refine K14 t ?_
        refine XS.iloadN X0.here hx rfl (hb hby d2_5) rfl ?_
        show Steps p.tables e below (s₁.setTop (mkF m 6 #[.val (.ref a0), .val (.int q), .val (.int (1 : Int32)), .val (.int (1 : Int32)), .val (.int (0 : Int32))] [(.int (1 : Int32))])) _
        refine XS.iloadN X0.here hx rfl (hb hby d2_6) rfl ?_
        show Steps p.tables e below (s₁.setTop (mkF m 7 #[.val (.ref a0), .val (.int q), .val (.int (1 : Int32)), .val (.int (1 : Int32)), .val (.int (0 : Int32))] [(.int (1 : Int32)), (.int (1 : Int32))])) _
        refine XS.icmpYes X0.here hx rfl (pc0 := 7) (pc' := 39) rfl (hb hby d2_7) rfl (flt (by decide)).2.1 (by decide) (by decide) ?_
        show Steps p.tables e below (s₁.setTop (mkF m 39 #[.val (.ref a0), .val (.int q), .val (.int (1 : Int32)), .val (.int (1 : Int32)), .val (.int (0 : Int32))] [])) _
        refine XS.iloadN X0.here hx rfl (hb hby d2_39) rfl ?_
        show Steps p.tables e below (s₁.setTop (mkF m 40 #[.val (.ref a0), .val (.int q), .val (.int (1 : Int32)), .val (.int (1 : Int32)), .val (.int (0 : Int32))] [(.int (1 : Int32))])) _
        exact kt
      have c0 : ¬ q < y0 := by simp only [Int32.lt_iff_toInt_lt] at *; omega
      have c1 :  q < y1 := by simp only [Int32.lt_iff_toInt_lt] at *; omega
      obtain ⟨fs, hr, hrun, hended, hW, hsame⟩ := X0.leave (v := some (.int (1 : Int32))) (fun h => by rw [Bd.returns] at h; cases h)
      refine ⟨_, _, ?_, hrun, hended, _, _, rfl, ?_, ⟨_, rfl⟩, hW, hsame.mono (by decide) (by decide)⟩
      · rw [← hG0]
        refine K15 _ ?_
        exact retOut X0 hx (t := .int) Bd.returns rfl (Or.inl ⟨rfl, Or.inl rfl, _, rfl⟩) (hb hby d2_40) hr
      · show Q2_2 Z a0 q ka y0 y1 h0 n0 _ s₁.heap _
        rw [e0]
        exact ⟨by simp only [own_inc, c0, c1, if_true, if_false] <;> rfl, N0, rfl⟩
  ·
    have K16 : ∀ t, Steps p.tables e below (s₁.setTop (mkF m 5 #[.val (.ref a0), .val (.int q), .val (.int ((1 : Int32) + (1 : Int32))), .val (.int (2 : Int32)), .val (.int (1 : Int32))] [])) t → Steps p.tables e below G0 t := by
      intro t kt
      refine K6 t ?_
      refine XS.icmpNo X0.here hx rfl (hb hby d2_22) rfl (flt hc7).2.2.1 ?_
      show Steps p.tables e below (s₁.setTop (mkF m 25 #[.val (.ref a0), .val (.int q), .val (.int (0 : Int32)), .val (.int (2 : Int32)), .val (.int (1 : Int32))] [])) _
      refine XS.iload X0.here hx rfl (hb hby d2_25) rfl ?_
      show Steps p.tables e below (s₁.setTop (mkF m 27 #[.val (.ref a0), .val (.int q), .val (.int (0 : Int32)), .val (.int (2 : Int32)), .val (.int (1 : Int32))] [(.int (1 : Int32))])) _
      refine XS.iconst X0.here hx rfl (hb hby d2_27) ?_
      show Steps p.tables e below (s₁.setTop (mkF m 28 #[.val (.ref a0), .val (.int q), .val (.int (0 : Int32)), .val (.int (2 : Int32)), .val (.int (1 : Int32))] [(.int (1 : Int32)), (.int (1 : Int32))])) _
      refine XS.iadd X0.here hx rfl (hb hby d2_28) rfl ?_
      show Steps p.tables e below (s₁.setTop (mkF m 29 #[.val (.ref a0), .val (.int q), .val (.int (0 : Int32)), .val (.int (2 : Int32)), .val (.int (1 : Int32))] [(.int ((1 : Int32) + (1 : Int32)))])) _
      refine XS.istoreN X0.here hx rfl (hb hby d2_29) rfl (l' := #[.val (.ref a0), .val (.int q), .val (.int ((1 : Int32) + (1 : Int32))), .val (.int (2 : Int32)), .val (.int (1 : Int32))]) rfl ?_
      show Steps p.tables e below (s₁.setTop (mkF m 30 #[.val (.ref a0), .val (.int q), .val (.int ((1 : Int32) + (1 : Int32))), .val (.int (2 : Int32)), .val (.int (1 : Int32))] [])) _
      refine XS.goto X0.here hx rfl (pc0 := 30) (pc' := 36) rfl (hb hby d2_30) (by decide) (by decide) ?_
      show Steps p.tables e below (s₁.setTop (mkF m 36 #[.val (.ref a0), .val (.int q), .val (.int ((1 : Int32) + (1 : Int32))), .val (.int (2 : Int32)), .val (.int (1 : Int32))] [])) _
      refine XS.goto X0.here hx rfl (pc0 := 36) (pc' := 5) rfl (hb hby d2_36) (by decide) (by decide) ?_
      show Steps p.tables e below (s₁.setTop (mkF m 5 #[.val (.ref a0), .val (.int q), .val (.int ((1 : Int32) + (1 : Int32))), .val (.int (2 : Int32)), .val (.int (1 : Int32))] [])) _
      exact kt
    rw [show ((1 : Int32) + (1 : Int32)) = (2 : Int32) from by decide] at K16
    have K17 : ∀ t, Steps p.tables e below (s₁.setTop (mkF m 40 #[.val (.ref a0), .val (.int q), .val (.int (2 : Int32)), .val (.int (2 : Int32)), .val (.int (1 : Int32))] [(.int (2 : Int32))])) t → Steps p.tables e below G0 t := by
      intro t kt
      refine K16 t ?_
      refine XS.iloadN X0.here hx rfl (hb hby d2_5) rfl ?_
      show Steps p.tables e below (s₁.setTop (mkF m 6 #[.val (.ref a0), .val (.int q), .val (.int (2 : Int32)), .val (.int (2 : Int32)), .val (.int (1 : Int32))] [(.int (2 : Int32))])) _
      refine XS.iloadN X0.here hx rfl (hb hby d2_6) rfl ?_
      show Steps p.tables e below (s₁.setTop (mkF m 7 #[.val (.ref a0), .val (.int q), .val (.int (2 : Int32)), .val (.int (2 : Int32)), .val (.int (1 : Int32))] [(.int (2 : Int32)), (.int (2 : Int32))])) _
      refine XS.icmpYes X0.here hx rfl (pc0 := 7) (pc' := 39) rfl (hb hby d2_7) rfl (flt (by decide)).2.1 (by decide) (by decide) ?_
      show Steps p.tables e below (s₁.setTop (mkF m 39 #[.val (.ref a0), .val (.int q), .val (.int (2 : Int32)), .val (.int (2 : Int32)), .val (.int (1 : Int32))] [])) _
      refine XS.iloadN X0.here hx rfl (hb hby d2_39) rfl ?_
      show Steps p.tables e below (s₁.setTop (mkF m 40 #[.val (.ref a0), .val (.int q), .val (.int (2 : Int32)), .val (.int (2 : Int32)), .val (.int (1 : Int32))] [(.int (2 : Int32))])) _
      exact kt
    have c0 : ¬ q < y0 := by simp only [Int32.lt_iff_toInt_lt] at *; omega
    have c1 : ¬ q < y1 := by simp only [Int32.lt_iff_toInt_lt] at *; omega
    obtain ⟨fs, hr, hrun, hended, hW, hsame⟩ := X0.leave (v := some (.int (2 : Int32))) (fun h => by rw [Bd.returns] at h; cases h)
    refine ⟨_, _, ?_, hrun, hended, _, _, rfl, ?_, ⟨_, rfl⟩, hW, hsame.mono (by decide) (by decide)⟩
    · rw [← hG0]
      refine K17 _ ?_
      exact retOut X0 hx (t := .int) Bd.returns rfl (Or.inl ⟨rfl, Or.inl rfl, _, rfl⟩) (hb hby d2_40) hr
    · show Q2_2 Z a0 q ka y0 y1 h0 n0 _ s₁.heap _
      rw [e0]
      exact ⟨by simp only [own_inc, c0, c1, if_true, if_false] <;> rfl, N0, rfl⟩
theorem ef_rm2_3 (m : MethodId) (a0 : Addr) (q : Int32) : entryFrame m #[(.ref a0), (.int q)] 5 = (mkF m 0 #[.val (.ref a0), .val (.int q), .unset, .unset, .unset] []) := by first | (simp [entryFrame, mkF, argsToLocals, Value.category]; done) | rfl
def Q2_3 (Z : State) (a0 : Addr) (q : Int32) (ka : ClassId) (y0 : Int32) (y1 : Int32) (y2 : Int32) (h0 : Heap) (n0 : Nat) (v : Option Value) (h : Heap) (L : List Loc) : Prop := v = some (.int (own_inc q y2 (own_inc q y1 (own_inc q y0 (0 : Int32))))) ∧ Fr n0 L ∧ h = h0
set_option maxRecDepth 65536 in
set_option maxHeartbeats 40000000 in
theorem rm2_3 (l : Launch) (Z : State) (aa : Array Value) (hw : ∀ d ∈ tables_1, d.before aa Z = true) (ws : List Jvm.Cond) (a0 : Addr) (q : Int32) (ka : ClassId) (y0 : Int32) (y1 : Int32) (y2 : Int32) (h0 : Heap) (n0 : Nat) (Z0 : n0 ≤ h0.size) (V0 : Arv Z h0 a0 ka .int (3 : Int32) [(.int y0), (.int y1), (.int y2)] (.int (0 : Int32))) (o0 : y0.toInt ≤ y1.toInt) (o1 : y1.toInt ≤ y2.toInt) :
    MetFree l (⟨"com/example/lichen/lichen/analysis/Runs", "countUpTo", "([II)I"⟩ : MethodName) (head1 (Jvm.Cond.code (⟨"com/example/lichen/lichen/analysis/Runs", "countUpTo", "([II)I"⟩ : MethodName) prog_23_method_6_code 5 (some .int) :: ws) ({ frames := 0, cells := 0, slots := 0, locals := 0 } : Room)) (fun a U => a = #[(.ref a0), (.int q)] ∧ Z.Warmed39 U.vm ∧ U.heap = h0) (fun _ _ _ _ _ => True) (fun _ U o U' => ∃ v L, o = .returned v ∧ Q2_3 Z a0 q ka y0 y1 y2 h0 n0 v U'.heap L ∧ FrameEnd U o U' L ({ frames := 0, cells := 0, slots := 0, locals := 0 } : Room).cells ({ frames := 0, cells := 0, slots := 0, locals := 0 } : Room).slots) := by
  refine MetFree.of_bodySF (plainFor_of_name pn_com_example_lichen_lichen_analysis_Runs) hisR ?_
  intro p e s m args below meth c s₁ Bd hml0 hP hK
  obtain ⟨rfl, hZ, hh⟩ := hP
  have hx := Bd.exec
  have hby := Bd.bytes
  have hml : c.maxLocals = 5 := hml0
  have hown : s.vm.findClass "com/example/lichen/lichen/analysis/Runs" = some m.cls := findClass_of_methodNamed Bd.named
  have hnm := (name_of_methodNamed Bd.named Bd.method).1
  have X0 : Stand p l e ({ frames := 0, cells := 0, slots := 0, locals := 0 } : Room) s m #[(.ref a0), (.int q)] below meth c s₁ [] 0 0 := Stand.of_body Bd
  have e0 : s₁.heap = h0 := by rw [← hh, Bd.state]; rfl
  have N0 := Fr.nil n0
  obtain ⟨G0, hG0⟩ : ∃ G, G = s₁.setTop (entryFrame m #[(.ref a0), (.int q)] 5) := ⟨_, rfl⟩
  have K0 : ∀ t, Steps p.tables e below (s₁.setTop (mkF m 0 #[.val (.ref a0), .val (.int q), .unset, .unset, .unset] [])) t → Steps p.tables e below G0 t := fun t k => by rw [hG0]; exact castTop (ef_rm2_3 m a0 q) k
  have K1 : ∀ t, Steps p.tables e below (s₁.setTop (mkF m 3 #[.val (.ref a0), .val (.int q), .val (.int (0 : Int32)), .unset, .unset] [(.ref a0)])) t → Steps p.tables e below G0 t := by
    intro t kt
    refine K0 t ?_
    refine XS.iconst X0.here hx rfl (hb hby d2_0) ?_
    show Steps p.tables e below (s₁.setTop (mkF m 1 #[.val (.ref a0), .val (.int q), .unset, .unset, .unset] [(.int (0 : Int32))])) _
    refine XS.istoreN X0.here hx rfl (hb hby d2_1) rfl (l' := #[.val (.ref a0), .val (.int q), .val (.int (0 : Int32)), .unset, .unset]) rfl ?_
    show Steps p.tables e below (s₁.setTop (mkF m 2 #[.val (.ref a0), .val (.int q), .val (.int (0 : Int32)), .unset, .unset] [])) _
    refine XS.aloadN X0.here hx rfl (hb hby d2_2) rfl rfl ?_
    show Steps p.tables e below (s₁.setTop (mkF m 3 #[.val (.ref a0), .val (.int q), .val (.int (0 : Int32)), .unset, .unset] [(.ref a0)])) _
    exact kt
  obtain ⟨cl2, Ar2, qq2, S2, M2, H2, GG2⟩ := id V0
  have K3 : ∀ t, Steps p.tables e below (s₁.setTop (mkF m 17 #[.val (.ref a0), .val (.int q), .val (.int (0 : Int32)), .val (.int (3 : Int32)), .val (.int ((((0 : Int32) + (3 : Int32)).toUInt32 >>> ((1 : Int32) &&& 31).toUInt32).toInt32))] [])) t → Steps p.tables e below G0 t := by
    intro t kt
    refine K1 t ?_
    refine X0.arraylength hx (by rw [e0]; exact (Ar2).1) (State.isArrayOf_alike hZ.alike (Ar2).2.1) (g := (mkF m 3 #[.val (.ref a0), .val (.int q), .val (.int (0 : Int32)), .unset, .unset] [(.ref a0)])) rfl rfl (hb hby d2_3) _ ?_
    rw [len_of S2 M2]
    show Steps p.tables e below (s₁.setTop (mkF m 4 #[.val (.ref a0), .val (.int q), .val (.int (0 : Int32)), .unset, .unset] [(.int (3 : Int32))])) _
    refine XS.istoreN X0.here hx rfl (hb hby d2_4) rfl (l' := #[.val (.ref a0), .val (.int q), .val (.int (0 : Int32)), .val (.int (3 : Int32)), .unset]) rfl ?_
    show Steps p.tables e below (s₁.setTop (mkF m 5 #[.val (.ref a0), .val (.int q), .val (.int (0 : Int32)), .val (.int (3 : Int32)), .unset] [])) _
    refine XS.iloadN X0.here hx rfl (hb hby d2_5) rfl ?_
    show Steps p.tables e below (s₁.setTop (mkF m 6 #[.val (.ref a0), .val (.int q), .val (.int (0 : Int32)), .val (.int (3 : Int32)), .unset] [(.int (0 : Int32))])) _
    refine XS.iloadN X0.here hx rfl (hb hby d2_6) rfl ?_
    show Steps p.tables e below (s₁.setTop (mkF m 7 #[.val (.ref a0), .val (.int q), .val (.int (0 : Int32)), .val (.int (3 : Int32)), .unset] [(.int (3 : Int32)), (.int (0 : Int32))])) _
    refine XS.icmpNo X0.here hx rfl (hb hby d2_7) rfl (tlt (by decide)).2.1 ?_
    show Steps p.tables e below (s₁.setTop (mkF m 10 #[.val (.ref a0), .val (.int q), .val (.int (0 : Int32)), .val (.int (3 : Int32)), .unset] [])) _
    refine XS.iloadN X0.here hx rfl (hb hby d2_10) rfl ?_
    show Steps p.tables e below (s₁.setTop (mkF m 11 #[.val (.ref a0), .val (.int q), .val (.int (0 : Int32)), .val (.int (3 : Int32)), .unset] [(.int (0 : Int32))])) _
    refine XS.iloadN X0.here hx rfl (hb hby d2_11) rfl ?_
    show Steps p.tables e below (s₁.setTop (mkF m 12 #[.val (.ref a0), .val (.int q), .val (.int (0 : Int32)), .val (.int (3 : Int32)), .unset] [(.int (3 : Int32)), (.int (0 : Int32))])) _
    refine XS.iadd X0.here hx rfl (hb hby d2_12) rfl ?_
    show Steps p.tables e below (s₁.setTop (mkF m 13 #[.val (.ref a0), .val (.int q), .val (.int (0 : Int32)), .val (.int (3 : Int32)), .unset] [(.int ((0 : Int32) + (3 : Int32)))])) _
    refine XS.iconst X0.here hx rfl (hb hby d2_13) ?_
    show Steps p.tables e below (s₁.setTop (mkF m 14 #[.val (.ref a0), .val (.int q), .val (.int (0 : Int32)), .val (.int (3 : Int32)), .unset] [(.int (1 : Int32)), (.int ((0 : Int32) + (3 : Int32)))])) _
    refine XS.iushr X0.here hx rfl (hb hby d2_14) rfl ?_
    show Steps p.tables e below (s₁.setTop (mkF m 15 #[.val (.ref a0), .val (.int q), .val (.int (0 : Int32)), .val (.int (3 : Int32)), .unset] [(.int ((((0 : Int32) + (3 : Int32)).toUInt32 >>> ((1 : Int32) &&& 31).toUInt32).toInt32))])) _
    refine XS.istore X0.here hx rfl (hb hby d2_15) rfl (l' := #[.val (.ref a0), .val (.int q), .val (.int (0 : Int32)), .val (.int (3 : Int32)), .val (.int ((((0 : Int32) + (3 : Int32)).toUInt32 >>> ((1 : Int32) &&& 31).toUInt32).toInt32))]) rfl ?_
    show Steps p.tables e below (s₁.setTop (mkF m 17 #[.val (.ref a0), .val (.int q), .val (.int (0 : Int32)), .val (.int (3 : Int32)), .val (.int ((((0 : Int32) + (3 : Int32)).toUInt32 >>> ((1 : Int32) &&& 31).toUInt32).toInt32))] [])) _
    exact kt
  rw [show ((((0 : Int32) + (3 : Int32)).toUInt32 >>> ((1 : Int32) &&& 31).toUInt32).toInt32) = (1 : Int32) from by decide] at K3
  have K4 : ∀ t, Steps p.tables e below (s₁.setTop (mkF m 20 #[.val (.ref a0), .val (.int q), .val (.int (0 : Int32)), .val (.int (3 : Int32)), .val (.int (1 : Int32))] [(.int (1 : Int32)), (.ref a0)])) t → Steps p.tables e below G0 t := by
    intro t kt
    refine K3 t ?_
    refine XS.aloadN X0.here hx rfl (hb hby d2_17) rfl rfl ?_
    show Steps p.tables e below (s₁.setTop (mkF m 18 #[.val (.ref a0), .val (.int q), .val (.int (0 : Int32)), .val (.int (3 : Int32)), .val (.int (1 : Int32))] [(.ref a0)])) _
    refine XS.iload X0.here hx rfl (hb hby d2_18) rfl ?_
    show Steps p.tables e below (s₁.setTop (mkF m 20 #[.val (.ref a0), .val (.int q), .val (.int (0 : Int32)), .val (.int (3 : Int32)), .val (.int (1 : Int32))] [(.int (1 : Int32)), (.ref a0)])) _
    exact kt
  obtain ⟨cl5, Ar5, qq5, S5, M5, H5, GG5⟩ := id V0
  have hin5 : ¬ ((1 : Int32) < 0 ∨ cl5.slots.size ≤ ((1 : Int32)).toNatClampNeg) := inb_of S5 ⟨by decide, by decide⟩
  have hat5 : cl5.slots[((1 : Int32)).toNatClampNeg]? = some (.int y1) := Has.at H5 hin5 rfl
  have K6 : ∀ t, Steps p.tables e below (s₁.setTop (mkF m 22 #[.val (.ref a0), .val (.int q), .val (.int (0 : Int32)), .val (.int (3 : Int32)), .val (.int (1 : Int32))] [(.int q), (.int y1)])) t → Steps p.tables e below G0 t := by
    intro t kt
    refine K4 t ?_
    refine X0.iaload hx (j := (1 : Int32)) (v := (.int y1)) (by rw [e0]; exact (Ar5).1) (State.isArrayOf_alike hZ.alike (Ar5).2.1) (Ar5).2.2 hin5 hat5 (g := (mkF m 20 #[.val (.ref a0), .val (.int q), .val (.int (0 : Int32)), .val (.int (3 : Int32)), .val (.int (1 : Int32))] [(.int (1 : Int32)), (.ref a0)])) rfl rfl (hb hby d2_20) _ ?_
    show Steps p.tables e below (s₁.setTop (mkF m 21 #[.val (.ref a0), .val (.int q), .val (.int (0 : Int32)), .val (.int (3 : Int32)), .val (.int (1 : Int32))] [(.int y1)])) _
    refine XS.iloadN X0.here hx rfl (hb hby d2_21) rfl ?_
    show Steps p.tables e below (s₁.setTop (mkF m 22 #[.val (.ref a0), .val (.int q), .val (.int (0 : Int32)), .val (.int (3 : Int32)), .val (.int (1 : Int32))] [(.int q), (.int y1)])) _
    exact kt
  by_cases hc7 : q < y1
  ·
    have K8 : ∀ t, Steps p.tables e below (s₁.setTop (mkF m 17 #[.val (.ref a0), .val (.int q), .val (.int (0 : Int32)), .val (.int (1 : Int32)), .val (.int ((((0 : Int32) + (1 : Int32)).toUInt32 >>> ((1 : Int32) &&& 31).toUInt32).toInt32))] [])) t → Steps p.tables e below G0 t := by
      intro t kt
      refine K6 t ?_
      refine XS.icmpYes X0.here hx rfl (pc0 := 22) (pc' := 33) rfl (hb hby d2_22) rfl (tlt hc7).2.2.1 (by decide) (by decide) ?_
      show Steps p.tables e below (s₁.setTop (mkF m 33 #[.val (.ref a0), .val (.int q), .val (.int (0 : Int32)), .val (.int (3 : Int32)), .val (.int (1 : Int32))] [])) _
      refine XS.iload X0.here hx rfl (hb hby d2_33) rfl ?_
      show Steps p.tables e below (s₁.setTop (mkF m 35 #[.val (.ref a0), .val (.int q), .val (.int (0 : Int32)), .val (.int (3 : Int32)), .val (.int (1 : Int32))] [(.int (1 : Int32))])) _
      refine XS.istoreN X0.here hx rfl (hb hby d2_35) rfl (l' := #[.val (.ref a0), .val (.int q), .val (.int (0 : Int32)), .val (.int (1 : Int32)), .val (.int (1 : Int32))]) rfl ?_
      show Steps p.tables e below (s₁.setTop (mkF m 36 #[.val (.ref a0), .val (.int q), .val (.int (0 : Int32)), .val (.int (1 : Int32)), .val (.int (1 : Int32))] [])) _
      refine XS.goto X0.here hx rfl (pc0 := 36) (pc' := 5) rfl (hb hby d2_36) (by decide) (by decide) ?_
      show Steps p.tables e below (s₁.setTop (mkF m 5 #[.val (.ref a0), .val (.int q), .val (.int (0 : Int32)), .val (.int (1 : Int32)), .val (.int (1 : Int32))] [])) _
      refine XS.iloadN X0.here hx rfl (hb hby d2_5) rfl ?_
      show Steps p.tables e below (s₁.setTop (mkF m 6 #[.val (.ref a0), .val (.int q), .val (.int (0 : Int32)), .val (.int (1 : Int32)), .val (.int (1 : Int32))] [(.int (0 : Int32))])) _
      refine XS.iloadN X0.here hx rfl (hb hby d2_6) rfl ?_
      show Steps p.tables e below (s₁.setTop (mkF m 7 #[.val (.ref a0), .val (.int q), .val (.int (0 : Int32)), .val (.int (1 : Int32)), .val (.int (1 : Int32))] [(.int (1 : Int32)), (.int (0 : Int32))])) _
      refine XS.icmpNo X0.here hx rfl (hb hby d2_7) rfl (tlt (by decide)).2.1 ?_
      show Steps p.tables e below (s₁.setTop (mkF m 10 #[.val (.ref a0), .val (.int q), .val (.int (0 : Int32)), .val (.int (1 : Int32)), .val (.int (1 : Int32))] [])) _
      refine XS.iloadN X0.here hx rfl (hb hby d2_10) rfl ?_
      show Steps p.tables e below (s₁.setTop (mkF m 11 #[.val (.ref a0), .val (.int q), .val (.int (0 : Int32)), .val (.int (1 : Int32)), .val (.int (1 : Int32))] [(.int (0 : Int32))])) _
      refine XS.iloadN X0.here hx rfl (hb hby d2_11) rfl ?_
      show Steps p.tables e below (s₁.setTop (mkF m 12 #[.val (.ref a0), .val (.int q), .val (.int (0 : Int32)), .val (.int (1 : Int32)), .val (.int (1 : Int32))] [(.int (1 : Int32)), (.int (0 : Int32))])) _
      refine XS.iadd X0.here hx rfl (hb hby d2_12) rfl ?_
      show Steps p.tables e below (s₁.setTop (mkF m 13 #[.val (.ref a0), .val (.int q), .val (.int (0 : Int32)), .val (.int (1 : Int32)), .val (.int (1 : Int32))] [(.int ((0 : Int32) + (1 : Int32)))])) _
      refine XS.iconst X0.here hx rfl (hb hby d2_13) ?_
      show Steps p.tables e below (s₁.setTop (mkF m 14 #[.val (.ref a0), .val (.int q), .val (.int (0 : Int32)), .val (.int (1 : Int32)), .val (.int (1 : Int32))] [(.int (1 : Int32)), (.int ((0 : Int32) + (1 : Int32)))])) _
      refine XS.iushr X0.here hx rfl (hb hby d2_14) rfl ?_
      show Steps p.tables e below (s₁.setTop (mkF m 15 #[.val (.ref a0), .val (.int q), .val (.int (0 : Int32)), .val (.int (1 : Int32)), .val (.int (1 : Int32))] [(.int ((((0 : Int32) + (1 : Int32)).toUInt32 >>> ((1 : Int32) &&& 31).toUInt32).toInt32))])) _
      refine XS.istore X0.here hx rfl (hb hby d2_15) rfl (l' := #[.val (.ref a0), .val (.int q), .val (.int (0 : Int32)), .val (.int (1 : Int32)), .val (.int ((((0 : Int32) + (1 : Int32)).toUInt32 >>> ((1 : Int32) &&& 31).toUInt32).toInt32))]) rfl ?_
      show Steps p.tables e below (s₁.setTop (mkF m 17 #[.val (.ref a0), .val (.int q), .val (.int (0 : Int32)), .val (.int (1 : Int32)), .val (.int ((((0 : Int32) + (1 : Int32)).toUInt32 >>> ((1 : Int32) &&& 31).toUInt32).toInt32))] [])) _
      exact kt
    rw [show ((((0 : Int32) + (1 : Int32)).toUInt32 >>> ((1 : Int32) &&& 31).toUInt32).toInt32) = (0 : Int32) from by decide] at K8
    have K9 : ∀ t, Steps p.tables e below (s₁.setTop (mkF m 20 #[.val (.ref a0), .val (.int q), .val (.int (0 : Int32)), .val (.int (1 : Int32)), .val (.int (0 : Int32))] [(.int (0 : Int32)), (.ref a0)])) t → Steps p.tables e below G0 t := by
      intro t kt
      refine K8 t ?_
      refine XS.aloadN X0.here hx rfl (hb hby d2_17) rfl rfl ?_
      show Steps p.tables e below (s₁.setTop (mkF m 18 #[.val (.ref a0), .val (.int q), .val (.int (0 : Int32)), .val (.int (1 : Int32)), .val (.int (0 : Int32))] [(.ref a0)])) _
      refine XS.iload X0.here hx rfl (hb hby d2_18) rfl ?_
      show Steps p.tables e below (s₁.setTop (mkF m 20 #[.val (.ref a0), .val (.int q), .val (.int (0 : Int32)), .val (.int (1 : Int32)), .val (.int (0 : Int32))] [(.int (0 : Int32)), (.ref a0)])) _
      exact kt
    obtain ⟨cl10, Ar10, qq10, S10, M10, H10, GG10⟩ := id V0
    have hin10 : ¬ ((0 : Int32) < 0 ∨ cl10.slots.size ≤ ((0 : Int32)).toNatClampNeg) := inb_of S10 ⟨by decide, by decide⟩
    have hat10 : cl10.slots[((0 : Int32)).toNatClampNeg]? = some (.int y0) := Has.at H10 hin10 rfl
    have K11 : ∀ t, Steps p.tables e below (s₁.setTop (mkF m 22 #[.val (.ref a0), .val (.int q), .val (.int (0 : Int32)), .val (.int (1 : Int32)), .val (.int (0 : Int32))] [(.int q), (.int y0)])) t → Steps p.tables e below G0 t := by
      intro t kt
      refine K9 t ?_
      refine X0.iaload hx (j := (0 : Int32)) (v := (.int y0)) (by rw [e0]; exact (Ar10).1) (State.isArrayOf_alike hZ.alike (Ar10).2.1) (Ar10).2.2 hin10 hat10 (g := (mkF m 20 #[.val (.ref a0), .val (.int q), .val (.int (0 : Int32)), .val (.int (1 : Int32)), .val (.int (0 : Int32))] [(.int (0 : Int32)), (.ref a0)])) rfl rfl (hb hby d2_20) _ ?_
      show Steps p.tables e below (s₁.setTop (mkF m 21 #[.val (.ref a0), .val (.int q), .val (.int (0 : Int32)), .val (.int (1 : Int32)), .val (.int (0 : Int32))] [(.int y0)])) _
      refine XS.iloadN X0.here hx rfl (hb hby d2_21) rfl ?_
      show Steps p.tables e below (s₁.setTop (mkF m 22 #[.val (.ref a0), .val (.int q), .val (.int (0 : Int32)), .val (.int (1 : Int32)), .val (.int (0 : Int32))] [(.int q), (.int y0)])) _
      exact kt
    by_cases hc12 : q < y0
    ·
      have K13 : ∀ t, Steps p.tables e below (s₁.setTop (mkF m 40 #[.val (.ref a0), .val (.int q), .val (.int (0 : Int32)), .val (.int (0 : Int32)), .val (.int (0 : Int32))] [(.int (0 : Int32))])) t → Steps p.tables e below G0 t := by
        intro t kt
        refine K11 t ?_
        refine XS.icmpYes X0.here hx rfl (pc0 := 22) (pc' := 33) rfl (hb hby d2_22) rfl (tlt hc12).2.2.1 (by decide) (by decide) ?_
        show Steps p.tables e below (s₁.setTop (mkF m 33 #[.val (.ref a0), .val (.int q), .val (.int (0 : Int32)), .val (.int (1 : Int32)), .val (.int (0 : Int32))] [])) _
        refine XS.iload X0.here hx rfl (hb hby d2_33) rfl ?_
        show Steps p.tables e below (s₁.setTop (mkF m 35 #[.val (.ref a0), .val (.int q), .val (.int (0 : Int32)), .val (.int (1 : Int32)), .val (.int (0 : Int32))] [(.int (0 : Int32))])) _
        refine XS.istoreN X0.here hx rfl (hb hby d2_35) rfl (l' := #[.val (.ref a0), .val (.int q), .val (.int (0 : Int32)), .val (.int (0 : Int32)), .val (.int (0 : Int32))]) rfl ?_
        show Steps p.tables e below (s₁.setTop (mkF m 36 #[.val (.ref a0), .val (.int q), .val (.int (0 : Int32)), .val (.int (0 : Int32)), .val (.int (0 : Int32))] [])) _
        refine XS.goto X0.here hx rfl (pc0 := 36) (pc' := 5) rfl (hb hby d2_36) (by decide) (by decide) ?_
        show Steps p.tables e below (s₁.setTop (mkF m 5 #[.val (.ref a0), .val (.int q), .val (.int (0 : Int32)), .val (.int (0 : Int32)), .val (.int (0 : Int32))] [])) _
        refine XS.iloadN X0.here hx rfl (hb hby d2_5) rfl ?_
        show Steps p.tables e below (s₁.setTop (mkF m 6 #[.val (.ref a0), .val (.int q), .val (.int (0 : Int32)), .val (.int (0 : Int32)), .val (.int (0 : Int32))] [(.int (0 : Int32))])) _
        refine XS.iloadN X0.here hx rfl (hb hby d2_6) rfl ?_
        show Steps p.tables e below (s₁.setTop (mkF m 7 #[.val (.ref a0), .val (.int q), .val (.int (0 : Int32)), .val (.int (0 : Int32)), .val (.int (0 : Int32))] [(.int (0 : Int32)), (.int (0 : Int32))])) _
        refine XS.icmpYes X0.here hx rfl (pc0 := 7) (pc' := 39) rfl (hb hby d2_7) rfl (flt (by decide)).2.1 (by decide) (by decide) ?_
        show Steps p.tables e below (s₁.setTop (mkF m 39 #[.val (.ref a0), .val (.int q), .val (.int (0 : Int32)), .val (.int (0 : Int32)), .val (.int (0 : Int32))] [])) _
        refine XS.iloadN X0.here hx rfl (hb hby d2_39) rfl ?_
        show Steps p.tables e below (s₁.setTop (mkF m 40 #[.val (.ref a0), .val (.int q), .val (.int (0 : Int32)), .val (.int (0 : Int32)), .val (.int (0 : Int32))] [(.int (0 : Int32))])) _
        exact kt
      have c0 :  q < y0 := by simp only [Int32.lt_iff_toInt_lt] at *; omega
      have c1 :  q < y1 := by simp only [Int32.lt_iff_toInt_lt] at *; omega
      have c2 :  q < y2 := by simp only [Int32.lt_iff_toInt_lt] at *; omega
      obtain ⟨fs, hr, hrun, hended, hW, hsame⟩ := X0.leave (v := some (.int (0 : Int32))) (fun h => by rw [Bd.returns] at h; cases h)
      refine ⟨_, _, ?_, hrun, hended, _, _, rfl, ?_, ⟨_, rfl⟩, hW, hsame.mono (by decide) (by decide)⟩
      · rw [← hG0]
        refine K13 _ ?_
        exact retOut X0 hx (t := .int) Bd.returns rfl (Or.inl ⟨rfl, Or.inl rfl, _, rfl⟩) (hb hby d2_40) hr
      · show Q2_3 Z a0 q ka y0 y1 y2 h0 n0 _ s₁.heap _
        rw [e0]
        exact ⟨by simp only [own_inc, c0, c1, c2, if_true, if_false] <;> rfl, N0, rfl⟩
    ·
      have K14 : ∀ t, Steps p.tables e below (s₁.setTop (mkF m 5 #[.val (.ref a0), .val (.int q), .val (.int ((0 : Int32) + (1 : Int32))), .val (.int (1 : Int32)), .val (.int (0 : Int32))] [])) t → Steps p.tables e below G0 t := by
        intro t kt
        refine K11 t ?_
        refine XS.icmpNo X0.here hx rfl (hb hby d2_22) rfl (flt hc12).2.2.1 ?_
        show Steps p.tables e below (s₁.setTop (mkF m 25 #[.val (.ref a0), .val (.int q), .val (.int (0 : Int32)), .val (.int (1 : Int32)), .val (.int (0 : Int32))] [])) _
        refine XS.iload X0.here hx rfl (hb hby d2_25) rfl ?_
        show Steps p.tables e below (s₁.setTop (mkF m 27 #[.val (.ref a0), .val (.int q), .val (.int (0 : Int32)), .val (.int (1 : Int32)), .val (.int (0 : Int32))] [(.int (0 : Int32))])) _
        refine XS.iconst X0.here hx rfl (hb hby d2_27) ?_
        show Steps p.tables e below (s₁.setTop (mkF m 28 #[.val (.ref a0), .val (.int q), .val (.int (0 : Int32)), .val (.int (1 : Int32)), .val (.int (0 : Int32))] [(.int (1 : Int32)), (.int (0 : Int32))])) _
        refine XS.iadd X0.here hx rfl (hb hby d2_28) rfl ?_
        show Steps p.tables e below (s₁.setTop (mkF m 29 #[.val (.ref a0), .val (.int q), .val (.int (0 : Int32)), .val (.int (1 : Int32)), .val (.int (0 : Int32))] [(.int ((0 : Int32) + (1 : Int32)))])) _
        refine XS.istoreN X0.here hx rfl (hb hby d2_29) rfl (l' := #[.val (.ref a0), .val (.int q), .val (.int ((0 : Int32) + (1 : Int32))), .val (.int (1 : Int32)), .val (.int (0 : Int32))]) rfl ?_
        show Steps p.tables e below (s₁.setTop (mkF m 30 #[.val (.ref a0), .val (.int q), .val (.int ((0 : Int32) + (1 : Int32))), .val (.int (1 : Int32)), .val (.int (0 : Int32))] [])) _
        refine XS.goto X0.here hx rfl (pc0 := 30) (pc' := 36) rfl (hb hby d2_30) (by decide) (by decide) ?_
        show Steps p.tables e below (s₁.setTop (mkF m 36 #[.val (.ref a0), .val (.int q), .val (.int ((0 : Int32) + (1 : Int32))), .val (.int (1 : Int32)), .val (.int (0 : Int32))] [])) _
        refine XS.goto X0.here hx rfl (pc0 := 36) (pc' := 5) rfl (hb hby d2_36) (by decide) (by decide) ?_
        show Steps p.tables e below (s₁.setTop (mkF m 5 #[.val (.ref a0), .val (.int q), .val (.int ((0 : Int32) + (1 : Int32))), .val (.int (1 : Int32)), .val (.int (0 : Int32))] [])) _
        exact kt
      rw [show ((0 : Int32) + (1 : Int32)) = (1 : Int32) from by decide] at K14
      have K15 : ∀ t, Steps p.tables e below (s₁.setTop (mkF m 40 #[.val (.ref a0), .val (.int q), .val (.int (1 : Int32)), .val (.int (1 : Int32)), .val (.int (0 : Int32))] [(.int (1 : Int32))])) t → Steps p.tables e below G0 t := by
        intro t kt
        refine K14 t ?_
        refine XS.iloadN X0.here hx rfl (hb hby d2_5) rfl ?_
        show Steps p.tables e below (s₁.setTop (mkF m 6 #[.val (.ref a0), .val (.int q), .val (.int (1 : Int32)), .val (.int (1 : Int32)), .val (.int (0 : Int32))] [(.int (1 : Int32))])) _
        refine XS.iloadN X0.here hx rfl (hb hby d2_6) rfl ?_
        show Steps p.tables e below (s₁.setTop (mkF m 7 #[.val (.ref a0), .val (.int q), .val (.int (1 : Int32)), .val (.int (1 : Int32)), .val (.int (0 : Int32))] [(.int (1 : Int32)), (.int (1 : Int32))])) _
        refine XS.icmpYes X0.here hx rfl (pc0 := 7) (pc' := 39) rfl (hb hby d2_7) rfl (flt (by decide)).2.1 (by decide) (by decide) ?_
        show Steps p.tables e below (s₁.setTop (mkF m 39 #[.val (.ref a0), .val (.int q), .val (.int (1 : Int32)), .val (.int (1 : Int32)), .val (.int (0 : Int32))] [])) _
        refine XS.iloadN X0.here hx rfl (hb hby d2_39) rfl ?_
        show Steps p.tables e below (s₁.setTop (mkF m 40 #[.val (.ref a0), .val (.int q), .val (.int (1 : Int32)), .val (.int (1 : Int32)), .val (.int (0 : Int32))] [(.int (1 : Int32))])) _
        exact kt
      have c0 : ¬ q < y0 := by simp only [Int32.lt_iff_toInt_lt] at *; omega
      have c1 :  q < y1 := by simp only [Int32.lt_iff_toInt_lt] at *; omega
      have c2 :  q < y2 := by simp only [Int32.lt_iff_toInt_lt] at *; omega
      obtain ⟨fs, hr, hrun, hended, hW, hsame⟩ := X0.leave (v := some (.int (1 : Int32))) (fun h => by rw [Bd.returns] at h; cases h)
      refine ⟨_, _, ?_, hrun, hended, _, _, rfl, ?_, ⟨_, rfl⟩, hW, hsame.mono (by decide) (by decide)⟩
      · rw [← hG0]
        refine K15 _ ?_
        exact retOut X0 hx (t := .int) Bd.returns rfl (Or.inl ⟨rfl, Or.inl rfl, _, rfl⟩) (hb hby d2_40) hr
      · show Q2_3 Z a0 q ka y0 y1 y2 h0 n0 _ s₁.heap _
        rw [e0]
        exact ⟨by simp only [own_inc, c0, c1, c2, if_true, if_false] <;> rfl, N0, rfl⟩
  ·
    have K16 : ∀ t, Steps p.tables e below (s₁.setTop (mkF m 5 #[.val (.ref a0), .val (.int q), .val (.int ((1 : Int32) + (1 : Int32))), .val (.int (3 : Int32)), .val (.int (1 : Int32))] [])) t → Steps p.tables e below G0 t := by
      intro t kt
      refine K6 t ?_
      refine XS.icmpNo X0.here hx rfl (hb hby d2_22) rfl (flt hc7).2.2.1 ?_
      show Steps p.tables e below (s₁.setTop (mkF m 25 #[.val (.ref a0), .val (.int q), .val (.int (0 : Int32)), .val (.int (3 : Int32)), .val (.int (1 : Int32))] [])) _
      refine XS.iload X0.here hx rfl (hb hby d2_25) rfl ?_
      show Steps p.tables e below (s₁.setTop (mkF m 27 #[.val (.ref a0), .val (.int q), .val (.int (0 : Int32)), .val (.int (3 : Int32)), .val (.int (1 : Int32))] [(.int (1 : Int32))])) _
      refine XS.iconst X0.here hx rfl (hb hby d2_27) ?_
      show Steps p.tables e below (s₁.setTop (mkF m 28 #[.val (.ref a0), .val (.int q), .val (.int (0 : Int32)), .val (.int (3 : Int32)), .val (.int (1 : Int32))] [(.int (1 : Int32)), (.int (1 : Int32))])) _
      refine XS.iadd X0.here hx rfl (hb hby d2_28) rfl ?_
      show Steps p.tables e below (s₁.setTop (mkF m 29 #[.val (.ref a0), .val (.int q), .val (.int (0 : Int32)), .val (.int (3 : Int32)), .val (.int (1 : Int32))] [(.int ((1 : Int32) + (1 : Int32)))])) _
      refine XS.istoreN X0.here hx rfl (hb hby d2_29) rfl (l' := #[.val (.ref a0), .val (.int q), .val (.int ((1 : Int32) + (1 : Int32))), .val (.int (3 : Int32)), .val (.int (1 : Int32))]) rfl ?_
      show Steps p.tables e below (s₁.setTop (mkF m 30 #[.val (.ref a0), .val (.int q), .val (.int ((1 : Int32) + (1 : Int32))), .val (.int (3 : Int32)), .val (.int (1 : Int32))] [])) _
      refine XS.goto X0.here hx rfl (pc0 := 30) (pc' := 36) rfl (hb hby d2_30) (by decide) (by decide) ?_
      show Steps p.tables e below (s₁.setTop (mkF m 36 #[.val (.ref a0), .val (.int q), .val (.int ((1 : Int32) + (1 : Int32))), .val (.int (3 : Int32)), .val (.int (1 : Int32))] [])) _
      refine XS.goto X0.here hx rfl (pc0 := 36) (pc' := 5) rfl (hb hby d2_36) (by decide) (by decide) ?_
      show Steps p.tables e below (s₁.setTop (mkF m 5 #[.val (.ref a0), .val (.int q), .val (.int ((1 : Int32) + (1 : Int32))), .val (.int (3 : Int32)), .val (.int (1 : Int32))] [])) _
      exact kt
    rw [show ((1 : Int32) + (1 : Int32)) = (2 : Int32) from by decide] at K16
    have K17 : ∀ t, Steps p.tables e below (s₁.setTop (mkF m 17 #[.val (.ref a0), .val (.int q), .val (.int (2 : Int32)), .val (.int (3 : Int32)), .val (.int ((((2 : Int32) + (3 : Int32)).toUInt32 >>> ((1 : Int32) &&& 31).toUInt32).toInt32))] [])) t → Steps p.tables e below G0 t := by
      intro t kt
      refine K16 t ?_
      refine XS.iloadN X0.here hx rfl (hb hby d2_5) rfl ?_
      show Steps p.tables e below (s₁.setTop (mkF m 6 #[.val (.ref a0), .val (.int q), .val (.int (2 : Int32)), .val (.int (3 : Int32)), .val (.int (1 : Int32))] [(.int (2 : Int32))])) _
      refine XS.iloadN X0.here hx rfl (hb hby d2_6) rfl ?_
      show Steps p.tables e below (s₁.setTop (mkF m 7 #[.val (.ref a0), .val (.int q), .val (.int (2 : Int32)), .val (.int (3 : Int32)), .val (.int (1 : Int32))] [(.int (3 : Int32)), (.int (2 : Int32))])) _
      refine XS.icmpNo X0.here hx rfl (hb hby d2_7) rfl (tlt (by decide)).2.1 ?_
      show Steps p.tables e below (s₁.setTop (mkF m 10 #[.val (.ref a0), .val (.int q), .val (.int (2 : Int32)), .val (.int (3 : Int32)), .val (.int (1 : Int32))] [])) _
      refine XS.iloadN X0.here hx rfl (hb hby d2_10) rfl ?_
      show Steps p.tables e below (s₁.setTop (mkF m 11 #[.val (.ref a0), .val (.int q), .val (.int (2 : Int32)), .val (.int (3 : Int32)), .val (.int (1 : Int32))] [(.int (2 : Int32))])) _
      refine XS.iloadN X0.here hx rfl (hb hby d2_11) rfl ?_
      show Steps p.tables e below (s₁.setTop (mkF m 12 #[.val (.ref a0), .val (.int q), .val (.int (2 : Int32)), .val (.int (3 : Int32)), .val (.int (1 : Int32))] [(.int (3 : Int32)), (.int (2 : Int32))])) _
      refine XS.iadd X0.here hx rfl (hb hby d2_12) rfl ?_
      show Steps p.tables e below (s₁.setTop (mkF m 13 #[.val (.ref a0), .val (.int q), .val (.int (2 : Int32)), .val (.int (3 : Int32)), .val (.int (1 : Int32))] [(.int ((2 : Int32) + (3 : Int32)))])) _
      refine XS.iconst X0.here hx rfl (hb hby d2_13) ?_
      show Steps p.tables e below (s₁.setTop (mkF m 14 #[.val (.ref a0), .val (.int q), .val (.int (2 : Int32)), .val (.int (3 : Int32)), .val (.int (1 : Int32))] [(.int (1 : Int32)), (.int ((2 : Int32) + (3 : Int32)))])) _
      refine XS.iushr X0.here hx rfl (hb hby d2_14) rfl ?_
      show Steps p.tables e below (s₁.setTop (mkF m 15 #[.val (.ref a0), .val (.int q), .val (.int (2 : Int32)), .val (.int (3 : Int32)), .val (.int (1 : Int32))] [(.int ((((2 : Int32) + (3 : Int32)).toUInt32 >>> ((1 : Int32) &&& 31).toUInt32).toInt32))])) _
      refine XS.istore X0.here hx rfl (hb hby d2_15) rfl (l' := #[.val (.ref a0), .val (.int q), .val (.int (2 : Int32)), .val (.int (3 : Int32)), .val (.int ((((2 : Int32) + (3 : Int32)).toUInt32 >>> ((1 : Int32) &&& 31).toUInt32).toInt32))]) rfl ?_
      show Steps p.tables e below (s₁.setTop (mkF m 17 #[.val (.ref a0), .val (.int q), .val (.int (2 : Int32)), .val (.int (3 : Int32)), .val (.int ((((2 : Int32) + (3 : Int32)).toUInt32 >>> ((1 : Int32) &&& 31).toUInt32).toInt32))] [])) _
      exact kt
    rw [show ((((2 : Int32) + (3 : Int32)).toUInt32 >>> ((1 : Int32) &&& 31).toUInt32).toInt32) = (2 : Int32) from by decide] at K17
    have K18 : ∀ t, Steps p.tables e below (s₁.setTop (mkF m 20 #[.val (.ref a0), .val (.int q), .val (.int (2 : Int32)), .val (.int (3 : Int32)), .val (.int (2 : Int32))] [(.int (2 : Int32)), (.ref a0)])) t → Steps p.tables e below G0 t := by
      intro t kt
      refine K17 t ?_
      refine XS.aloadN X0.here hx rfl (hb hby d2_17) rfl rfl ?_
      show Steps p.tables e below (s₁.setTop (mkF m 18 #[.val (.ref a0), .val (.int q), .val (.int (2 : Int32)), .val (.int (3 : Int32)), .val (.int (2 : Int32))] [(.ref a0)])) _
      refine XS.iload X0.here hx rfl (hb hby d2_18) rfl ?_
      show Steps p.tables e below (s₁.setTop (mkF m 20 #[.val (.ref a0), .val (.int q), .val (.int (2 : Int32)), .val (.int (3 : Int32)), .val (.int (2 : Int32))] [(.int (2 : Int32)), (.ref a0)])) _
      exact kt
    obtain ⟨cl19, Ar19, qq19, S19, M19, H19, GG19⟩ := id V0
    have hin19 : ¬ ((2 : Int32) < 0 ∨ cl19.slots.size ≤ ((2 : Int32)).toNatClampNeg) := inb_of S19 ⟨by decide, by decide⟩
    have hat19 : cl19.slots[((2 : Int32)).toNatClampNeg]? = some (.int y2) := Has.at H19 hin19 rfl
    have K20 : ∀ t, Steps p.tables e below (s₁.setTop (mkF m 22 #[.val (.ref a0), .val (.int q), .val (.int (2 : Int32)), .val (.int (3 : Int32)), .val (.int (2 : Int32))] [(.int q), (.int y2)])) t → Steps p.tables e below G0 t := by
      intro t kt
      refine K18 t ?_
      refine X0.iaload hx (j := (2 : Int32)) (v := (.int y2)) (by rw [e0]; exact (Ar19).1) (State.isArrayOf_alike hZ.alike (Ar19).2.1) (Ar19).2.2 hin19 hat19 (g := (mkF m 20 #[.val (.ref a0), .val (.int q), .val (.int (2 : Int32)), .val (.int (3 : Int32)), .val (.int (2 : Int32))] [(.int (2 : Int32)), (.ref a0)])) rfl rfl (hb hby d2_20) _ ?_
      show Steps p.tables e below (s₁.setTop (mkF m 21 #[.val (.ref a0), .val (.int q), .val (.int (2 : Int32)), .val (.int (3 : Int32)), .val (.int (2 : Int32))] [(.int y2)])) _
      refine XS.iloadN X0.here hx rfl (hb hby d2_21) rfl ?_
      show Steps p.tables e below (s₁.setTop (mkF m 22 #[.val (.ref a0), .val (.int q), .val (.int (2 : Int32)), .val (.int (3 : Int32)), .val (.int (2 : Int32))] [(.int q), (.int y2)])) _
      exact kt
    by_cases hc21 : q < y2
    ·
      have K22 : ∀ t, Steps p.tables e below (s₁.setTop (mkF m 40 #[.val (.ref a0), .val (.int q), .val (.int (2 : Int32)), .val (.int (2 : Int32)), .val (.int (2 : Int32))] [(.int (2 : Int32))])) t → Steps p.tables e below G0 t := by
        intro t kt
        refine K20 t ?_
        refine XS.icmpYes X0.here hx rfl (pc0 := 22) (pc' := 33) rfl (hb hby d2_22) rfl (tlt hc21).2.2.1 (by decide) (by decide) ?_
        show Steps p.tables e below (s₁.setTop (mkF m 33 #[.val (.ref a0), .val (.int q), .val (.int (2 : Int32)), .val (.int (3 : Int32)), .val (.int (2 : Int32))] [])) _
        refine XS.iload X0.here hx rfl (hb hby d2_33) rfl ?_
        show Steps p.tables e below (s₁.setTop (mkF m 35 #[.val (.ref a0), .val (.int q), .val (.int (2 : Int32)), .val (.int (3 : Int32)), .val (.int (2 : Int32))] [(.int (2 : Int32))])) _
        refine XS.istoreN X0.here hx rfl (hb hby d2_35) rfl (l' := #[.val (.ref a0), .val (.int q), .val (.int (2 : Int32)), .val (.int (2 : Int32)), .val (.int (2 : Int32))]) rfl ?_
        show Steps p.tables e below (s₁.setTop (mkF m 36 #[.val (.ref a0), .val (.int q), .val (.int (2 : Int32)), .val (.int (2 : Int32)), .val (.int (2 : Int32))] [])) _
        refine XS.goto X0.here hx rfl (pc0 := 36) (pc' := 5) rfl (hb hby d2_36) (by decide) (by decide) ?_
        show Steps p.tables e below (s₁.setTop (mkF m 5 #[.val (.ref a0), .val (.int q), .val (.int (2 : Int32)), .val (.int (2 : Int32)), .val (.int (2 : Int32))] [])) _
        refine XS.iloadN X0.here hx rfl (hb hby d2_5) rfl ?_
        show Steps p.tables e below (s₁.setTop (mkF m 6 #[.val (.ref a0), .val (.int q), .val (.int (2 : Int32)), .val (.int (2 : Int32)), .val (.int (2 : Int32))] [(.int (2 : Int32))])) _
        refine XS.iloadN X0.here hx rfl (hb hby d2_6) rfl ?_
        show Steps p.tables e below (s₁.setTop (mkF m 7 #[.val (.ref a0), .val (.int q), .val (.int (2 : Int32)), .val (.int (2 : Int32)), .val (.int (2 : Int32))] [(.int (2 : Int32)), (.int (2 : Int32))])) _
        refine XS.icmpYes X0.here hx rfl (pc0 := 7) (pc' := 39) rfl (hb hby d2_7) rfl (flt (by decide)).2.1 (by decide) (by decide) ?_
        show Steps p.tables e below (s₁.setTop (mkF m 39 #[.val (.ref a0), .val (.int q), .val (.int (2 : Int32)), .val (.int (2 : Int32)), .val (.int (2 : Int32))] [])) _
        refine XS.iloadN X0.here hx rfl (hb hby d2_39) rfl ?_
        show Steps p.tables e below (s₁.setTop (mkF m 40 #[.val (.ref a0), .val (.int q), .val (.int (2 : Int32)), .val (.int (2 : Int32)), .val (.int (2 : Int32))] [(.int (2 : Int32))])) _
        exact kt
      have c0 : ¬ q < y0 := by simp only [Int32.lt_iff_toInt_lt] at *; omega
      have c1 : ¬ q < y1 := by simp only [Int32.lt_iff_toInt_lt] at *; omega
      have c2 :  q < y2 := by simp only [Int32.lt_iff_toInt_lt] at *; omega
      obtain ⟨fs, hr, hrun, hended, hW, hsame⟩ := X0.leave (v := some (.int (2 : Int32))) (fun h => by rw [Bd.returns] at h; cases h)
      refine ⟨_, _, ?_, hrun, hended, _, _, rfl, ?_, ⟨_, rfl⟩, hW, hsame.mono (by decide) (by decide)⟩
      · rw [← hG0]
        refine K22 _ ?_
        exact retOut X0 hx (t := .int) Bd.returns rfl (Or.inl ⟨rfl, Or.inl rfl, _, rfl⟩) (hb hby d2_40) hr
      · show Q2_3 Z a0 q ka y0 y1 y2 h0 n0 _ s₁.heap _
        rw [e0]
        exact ⟨by simp only [own_inc, c0, c1, c2, if_true, if_false] <;> rfl, N0, rfl⟩
    ·
      have K23 : ∀ t, Steps p.tables e below (s₁.setTop (mkF m 5 #[.val (.ref a0), .val (.int q), .val (.int ((2 : Int32) + (1 : Int32))), .val (.int (3 : Int32)), .val (.int (2 : Int32))] [])) t → Steps p.tables e below G0 t := by
        intro t kt
        refine K20 t ?_
        refine XS.icmpNo X0.here hx rfl (hb hby d2_22) rfl (flt hc21).2.2.1 ?_
        show Steps p.tables e below (s₁.setTop (mkF m 25 #[.val (.ref a0), .val (.int q), .val (.int (2 : Int32)), .val (.int (3 : Int32)), .val (.int (2 : Int32))] [])) _
        refine XS.iload X0.here hx rfl (hb hby d2_25) rfl ?_
        show Steps p.tables e below (s₁.setTop (mkF m 27 #[.val (.ref a0), .val (.int q), .val (.int (2 : Int32)), .val (.int (3 : Int32)), .val (.int (2 : Int32))] [(.int (2 : Int32))])) _
        refine XS.iconst X0.here hx rfl (hb hby d2_27) ?_
        show Steps p.tables e below (s₁.setTop (mkF m 28 #[.val (.ref a0), .val (.int q), .val (.int (2 : Int32)), .val (.int (3 : Int32)), .val (.int (2 : Int32))] [(.int (1 : Int32)), (.int (2 : Int32))])) _
        refine XS.iadd X0.here hx rfl (hb hby d2_28) rfl ?_
        show Steps p.tables e below (s₁.setTop (mkF m 29 #[.val (.ref a0), .val (.int q), .val (.int (2 : Int32)), .val (.int (3 : Int32)), .val (.int (2 : Int32))] [(.int ((2 : Int32) + (1 : Int32)))])) _
        refine XS.istoreN X0.here hx rfl (hb hby d2_29) rfl (l' := #[.val (.ref a0), .val (.int q), .val (.int ((2 : Int32) + (1 : Int32))), .val (.int (3 : Int32)), .val (.int (2 : Int32))]) rfl ?_
        show Steps p.tables e below (s₁.setTop (mkF m 30 #[.val (.ref a0), .val (.int q), .val (.int ((2 : Int32) + (1 : Int32))), .val (.int (3 : Int32)), .val (.int (2 : Int32))] [])) _
        refine XS.goto X0.here hx rfl (pc0 := 30) (pc' := 36) rfl (hb hby d2_30) (by decide) (by decide) ?_
        show Steps p.tables e below (s₁.setTop (mkF m 36 #[.val (.ref a0), .val (.int q), .val (.int ((2 : Int32) + (1 : Int32))), .val (.int (3 : Int32)), .val (.int (2 : Int32))] [])) _
        refine XS.goto X0.here hx rfl (pc0 := 36) (pc' := 5) rfl (hb hby d2_36) (by decide) (by decide) ?_
        show Steps p.tables e below (s₁.setTop (mkF m 5 #[.val (.ref a0), .val (.int q), .val (.int ((2 : Int32) + (1 : Int32))), .val (.int (3 : Int32)), .val (.int (2 : Int32))] [])) _
        exact kt
      rw [show ((2 : Int32) + (1 : Int32)) = (3 : Int32) from by decide] at K23
      have K24 : ∀ t, Steps p.tables e below (s₁.setTop (mkF m 40 #[.val (.ref a0), .val (.int q), .val (.int (3 : Int32)), .val (.int (3 : Int32)), .val (.int (2 : Int32))] [(.int (3 : Int32))])) t → Steps p.tables e below G0 t := by
        intro t kt
        refine K23 t ?_
        refine XS.iloadN X0.here hx rfl (hb hby d2_5) rfl ?_
        show Steps p.tables e below (s₁.setTop (mkF m 6 #[.val (.ref a0), .val (.int q), .val (.int (3 : Int32)), .val (.int (3 : Int32)), .val (.int (2 : Int32))] [(.int (3 : Int32))])) _
        refine XS.iloadN X0.here hx rfl (hb hby d2_6) rfl ?_
        show Steps p.tables e below (s₁.setTop (mkF m 7 #[.val (.ref a0), .val (.int q), .val (.int (3 : Int32)), .val (.int (3 : Int32)), .val (.int (2 : Int32))] [(.int (3 : Int32)), (.int (3 : Int32))])) _
        refine XS.icmpYes X0.here hx rfl (pc0 := 7) (pc' := 39) rfl (hb hby d2_7) rfl (flt (by decide)).2.1 (by decide) (by decide) ?_
        show Steps p.tables e below (s₁.setTop (mkF m 39 #[.val (.ref a0), .val (.int q), .val (.int (3 : Int32)), .val (.int (3 : Int32)), .val (.int (2 : Int32))] [])) _
        refine XS.iloadN X0.here hx rfl (hb hby d2_39) rfl ?_
        show Steps p.tables e below (s₁.setTop (mkF m 40 #[.val (.ref a0), .val (.int q), .val (.int (3 : Int32)), .val (.int (3 : Int32)), .val (.int (2 : Int32))] [(.int (3 : Int32))])) _
        exact kt
      have c0 : ¬ q < y0 := by simp only [Int32.lt_iff_toInt_lt] at *; omega
      have c1 : ¬ q < y1 := by simp only [Int32.lt_iff_toInt_lt] at *; omega
      have c2 : ¬ q < y2 := by simp only [Int32.lt_iff_toInt_lt] at *; omega
      obtain ⟨fs, hr, hrun, hended, hW, hsame⟩ := X0.leave (v := some (.int (3 : Int32))) (fun h => by rw [Bd.returns] at h; cases h)
      refine ⟨_, _, ?_, hrun, hended, _, _, rfl, ?_, ⟨_, rfl⟩, hW, hsame.mono (by decide) (by decide)⟩
      · rw [← hG0]
        refine K24 _ ?_
        exact retOut X0 hx (t := .int) Bd.returns rfl (Or.inl ⟨rfl, Or.inl rfl, _, rfl⟩) (hb hby d2_40) hr
      · show Q2_3 Z a0 q ka y0 y1 y2 h0 n0 _ s₁.heap _
        rw [e0]
        exact ⟨by simp only [own_inc, c0, c1, c2, if_true, if_false] <;> rfl, N0, rfl⟩
theorem ef_rm2_4 (m : MethodId) (a0 : Addr) (q : Int32) : entryFrame m #[(.ref a0), (.int q)] 5 = (mkF m 0 #[.val (.ref a0), .val (.int q), .unset, .unset, .unset] []) := by first | (simp [entryFrame, mkF, argsToLocals, Value.category]; done) | rfl
def Q2_4 (Z : State) (a0 : Addr) (q : Int32) (ka : ClassId) (y0 : Int32) (y1 : Int32) (y2 : Int32) (y3 : Int32) (h0 : Heap) (n0 : Nat) (v : Option Value) (h : Heap) (L : List Loc) : Prop := v = some (.int (own_inc q y3 (own_inc q y2 (own_inc q y1 (own_inc q y0 (0 : Int32)))))) ∧ Fr n0 L ∧ h = h0
set_option maxRecDepth 65536 in
set_option maxHeartbeats 40000000 in
theorem rm2_4 (l : Launch) (Z : State) (aa : Array Value) (hw : ∀ d ∈ tables_1, d.before aa Z = true) (ws : List Jvm.Cond) (a0 : Addr) (q : Int32) (ka : ClassId) (y0 : Int32) (y1 : Int32) (y2 : Int32) (y3 : Int32) (h0 : Heap) (n0 : Nat) (Z0 : n0 ≤ h0.size) (V0 : Arv Z h0 a0 ka .int (4 : Int32) [(.int y0), (.int y1), (.int y2), (.int y3)] (.int (0 : Int32))) (o0 : y0.toInt ≤ y1.toInt) (o1 : y1.toInt ≤ y2.toInt) (o2 : y2.toInt ≤ y3.toInt) :
    MetFree l (⟨"com/example/lichen/lichen/analysis/Runs", "countUpTo", "([II)I"⟩ : MethodName) (head1 (Jvm.Cond.code (⟨"com/example/lichen/lichen/analysis/Runs", "countUpTo", "([II)I"⟩ : MethodName) prog_23_method_6_code 5 (some .int) :: ws) ({ frames := 0, cells := 0, slots := 0, locals := 0 } : Room)) (fun a U => a = #[(.ref a0), (.int q)] ∧ Z.Warmed39 U.vm ∧ U.heap = h0) (fun _ _ _ _ _ => True) (fun _ U o U' => ∃ v L, o = .returned v ∧ Q2_4 Z a0 q ka y0 y1 y2 y3 h0 n0 v U'.heap L ∧ FrameEnd U o U' L ({ frames := 0, cells := 0, slots := 0, locals := 0 } : Room).cells ({ frames := 0, cells := 0, slots := 0, locals := 0 } : Room).slots) := by
  refine MetFree.of_bodySF (plainFor_of_name pn_com_example_lichen_lichen_analysis_Runs) hisR ?_
  intro p e s m args below meth c s₁ Bd hml0 hP hK
  obtain ⟨rfl, hZ, hh⟩ := hP
  have hx := Bd.exec
  have hby := Bd.bytes
  have hml : c.maxLocals = 5 := hml0
  have hown : s.vm.findClass "com/example/lichen/lichen/analysis/Runs" = some m.cls := findClass_of_methodNamed Bd.named
  have hnm := (name_of_methodNamed Bd.named Bd.method).1
  have X0 : Stand p l e ({ frames := 0, cells := 0, slots := 0, locals := 0 } : Room) s m #[(.ref a0), (.int q)] below meth c s₁ [] 0 0 := Stand.of_body Bd
  have e0 : s₁.heap = h0 := by rw [← hh, Bd.state]; rfl
  have N0 := Fr.nil n0
  obtain ⟨G0, hG0⟩ : ∃ G, G = s₁.setTop (entryFrame m #[(.ref a0), (.int q)] 5) := ⟨_, rfl⟩
  have K0 : ∀ t, Steps p.tables e below (s₁.setTop (mkF m 0 #[.val (.ref a0), .val (.int q), .unset, .unset, .unset] [])) t → Steps p.tables e below G0 t := fun t k => by rw [hG0]; exact castTop (ef_rm2_4 m a0 q) k
  have K1 : ∀ t, Steps p.tables e below (s₁.setTop (mkF m 3 #[.val (.ref a0), .val (.int q), .val (.int (0 : Int32)), .unset, .unset] [(.ref a0)])) t → Steps p.tables e below G0 t := by
    intro t kt
    refine K0 t ?_
    refine XS.iconst X0.here hx rfl (hb hby d2_0) ?_
    show Steps p.tables e below (s₁.setTop (mkF m 1 #[.val (.ref a0), .val (.int q), .unset, .unset, .unset] [(.int (0 : Int32))])) _
    refine XS.istoreN X0.here hx rfl (hb hby d2_1) rfl (l' := #[.val (.ref a0), .val (.int q), .val (.int (0 : Int32)), .unset, .unset]) rfl ?_
    show Steps p.tables e below (s₁.setTop (mkF m 2 #[.val (.ref a0), .val (.int q), .val (.int (0 : Int32)), .unset, .unset] [])) _
    refine XS.aloadN X0.here hx rfl (hb hby d2_2) rfl rfl ?_
    show Steps p.tables e below (s₁.setTop (mkF m 3 #[.val (.ref a0), .val (.int q), .val (.int (0 : Int32)), .unset, .unset] [(.ref a0)])) _
    exact kt
  obtain ⟨cl2, Ar2, qq2, S2, M2, H2, GG2⟩ := id V0
  have K3 : ∀ t, Steps p.tables e below (s₁.setTop (mkF m 17 #[.val (.ref a0), .val (.int q), .val (.int (0 : Int32)), .val (.int (4 : Int32)), .val (.int ((((0 : Int32) + (4 : Int32)).toUInt32 >>> ((1 : Int32) &&& 31).toUInt32).toInt32))] [])) t → Steps p.tables e below G0 t := by
    intro t kt
    refine K1 t ?_
    refine X0.arraylength hx (by rw [e0]; exact (Ar2).1) (State.isArrayOf_alike hZ.alike (Ar2).2.1) (g := (mkF m 3 #[.val (.ref a0), .val (.int q), .val (.int (0 : Int32)), .unset, .unset] [(.ref a0)])) rfl rfl (hb hby d2_3) _ ?_
    rw [len_of S2 M2]
    show Steps p.tables e below (s₁.setTop (mkF m 4 #[.val (.ref a0), .val (.int q), .val (.int (0 : Int32)), .unset, .unset] [(.int (4 : Int32))])) _
    refine XS.istoreN X0.here hx rfl (hb hby d2_4) rfl (l' := #[.val (.ref a0), .val (.int q), .val (.int (0 : Int32)), .val (.int (4 : Int32)), .unset]) rfl ?_
    show Steps p.tables e below (s₁.setTop (mkF m 5 #[.val (.ref a0), .val (.int q), .val (.int (0 : Int32)), .val (.int (4 : Int32)), .unset] [])) _
    refine XS.iloadN X0.here hx rfl (hb hby d2_5) rfl ?_
    show Steps p.tables e below (s₁.setTop (mkF m 6 #[.val (.ref a0), .val (.int q), .val (.int (0 : Int32)), .val (.int (4 : Int32)), .unset] [(.int (0 : Int32))])) _
    refine XS.iloadN X0.here hx rfl (hb hby d2_6) rfl ?_
    show Steps p.tables e below (s₁.setTop (mkF m 7 #[.val (.ref a0), .val (.int q), .val (.int (0 : Int32)), .val (.int (4 : Int32)), .unset] [(.int (4 : Int32)), (.int (0 : Int32))])) _
    refine XS.icmpNo X0.here hx rfl (hb hby d2_7) rfl (tlt (by decide)).2.1 ?_
    show Steps p.tables e below (s₁.setTop (mkF m 10 #[.val (.ref a0), .val (.int q), .val (.int (0 : Int32)), .val (.int (4 : Int32)), .unset] [])) _
    refine XS.iloadN X0.here hx rfl (hb hby d2_10) rfl ?_
    show Steps p.tables e below (s₁.setTop (mkF m 11 #[.val (.ref a0), .val (.int q), .val (.int (0 : Int32)), .val (.int (4 : Int32)), .unset] [(.int (0 : Int32))])) _
    refine XS.iloadN X0.here hx rfl (hb hby d2_11) rfl ?_
    show Steps p.tables e below (s₁.setTop (mkF m 12 #[.val (.ref a0), .val (.int q), .val (.int (0 : Int32)), .val (.int (4 : Int32)), .unset] [(.int (4 : Int32)), (.int (0 : Int32))])) _
    refine XS.iadd X0.here hx rfl (hb hby d2_12) rfl ?_
    show Steps p.tables e below (s₁.setTop (mkF m 13 #[.val (.ref a0), .val (.int q), .val (.int (0 : Int32)), .val (.int (4 : Int32)), .unset] [(.int ((0 : Int32) + (4 : Int32)))])) _
    refine XS.iconst X0.here hx rfl (hb hby d2_13) ?_
    show Steps p.tables e below (s₁.setTop (mkF m 14 #[.val (.ref a0), .val (.int q), .val (.int (0 : Int32)), .val (.int (4 : Int32)), .unset] [(.int (1 : Int32)), (.int ((0 : Int32) + (4 : Int32)))])) _
    refine XS.iushr X0.here hx rfl (hb hby d2_14) rfl ?_
    show Steps p.tables e below (s₁.setTop (mkF m 15 #[.val (.ref a0), .val (.int q), .val (.int (0 : Int32)), .val (.int (4 : Int32)), .unset] [(.int ((((0 : Int32) + (4 : Int32)).toUInt32 >>> ((1 : Int32) &&& 31).toUInt32).toInt32))])) _
    refine XS.istore X0.here hx rfl (hb hby d2_15) rfl (l' := #[.val (.ref a0), .val (.int q), .val (.int (0 : Int32)), .val (.int (4 : Int32)), .val (.int ((((0 : Int32) + (4 : Int32)).toUInt32 >>> ((1 : Int32) &&& 31).toUInt32).toInt32))]) rfl ?_
    show Steps p.tables e below (s₁.setTop (mkF m 17 #[.val (.ref a0), .val (.int q), .val (.int (0 : Int32)), .val (.int (4 : Int32)), .val (.int ((((0 : Int32) + (4 : Int32)).toUInt32 >>> ((1 : Int32) &&& 31).toUInt32).toInt32))] [])) _
    exact kt
  rw [show ((((0 : Int32) + (4 : Int32)).toUInt32 >>> ((1 : Int32) &&& 31).toUInt32).toInt32) = (2 : Int32) from by decide] at K3
  have K4 : ∀ t, Steps p.tables e below (s₁.setTop (mkF m 20 #[.val (.ref a0), .val (.int q), .val (.int (0 : Int32)), .val (.int (4 : Int32)), .val (.int (2 : Int32))] [(.int (2 : Int32)), (.ref a0)])) t → Steps p.tables e below G0 t := by
    intro t kt
    refine K3 t ?_
    refine XS.aloadN X0.here hx rfl (hb hby d2_17) rfl rfl ?_
    show Steps p.tables e below (s₁.setTop (mkF m 18 #[.val (.ref a0), .val (.int q), .val (.int (0 : Int32)), .val (.int (4 : Int32)), .val (.int (2 : Int32))] [(.ref a0)])) _
    refine XS.iload X0.here hx rfl (hb hby d2_18) rfl ?_
    show Steps p.tables e below (s₁.setTop (mkF m 20 #[.val (.ref a0), .val (.int q), .val (.int (0 : Int32)), .val (.int (4 : Int32)), .val (.int (2 : Int32))] [(.int (2 : Int32)), (.ref a0)])) _
    exact kt
  obtain ⟨cl5, Ar5, qq5, S5, M5, H5, GG5⟩ := id V0
  have hin5 : ¬ ((2 : Int32) < 0 ∨ cl5.slots.size ≤ ((2 : Int32)).toNatClampNeg) := inb_of S5 ⟨by decide, by decide⟩
  have hat5 : cl5.slots[((2 : Int32)).toNatClampNeg]? = some (.int y2) := Has.at H5 hin5 rfl
  have K6 : ∀ t, Steps p.tables e below (s₁.setTop (mkF m 22 #[.val (.ref a0), .val (.int q), .val (.int (0 : Int32)), .val (.int (4 : Int32)), .val (.int (2 : Int32))] [(.int q), (.int y2)])) t → Steps p.tables e below G0 t := by
    intro t kt
    refine K4 t ?_
    refine X0.iaload hx (j := (2 : Int32)) (v := (.int y2)) (by rw [e0]; exact (Ar5).1) (State.isArrayOf_alike hZ.alike (Ar5).2.1) (Ar5).2.2 hin5 hat5 (g := (mkF m 20 #[.val (.ref a0), .val (.int q), .val (.int (0 : Int32)), .val (.int (4 : Int32)), .val (.int (2 : Int32))] [(.int (2 : Int32)), (.ref a0)])) rfl rfl (hb hby d2_20) _ ?_
    show Steps p.tables e below (s₁.setTop (mkF m 21 #[.val (.ref a0), .val (.int q), .val (.int (0 : Int32)), .val (.int (4 : Int32)), .val (.int (2 : Int32))] [(.int y2)])) _
    refine XS.iloadN X0.here hx rfl (hb hby d2_21) rfl ?_
    show Steps p.tables e below (s₁.setTop (mkF m 22 #[.val (.ref a0), .val (.int q), .val (.int (0 : Int32)), .val (.int (4 : Int32)), .val (.int (2 : Int32))] [(.int q), (.int y2)])) _
    exact kt
  by_cases hc7 : q < y2
  ·
    have K8 : ∀ t, Steps p.tables e below (s₁.setTop (mkF m 17 #[.val (.ref a0), .val (.int q), .val (.int (0 : Int32)), .val (.int (2 : Int32)), .val (.int ((((0 : Int32) + (2 : Int32)).toUInt32 >>> ((1 : Int32) &&& 31).toUInt32).toInt32))] [])) t → Steps p.tables e below G0 t := by
      intro t kt
      refine K6 t ?_
      refine XS.icmpYes X0.here hx rfl (pc0 := 22) (pc' := 33) rfl (hb hby d2_22) rfl (tlt hc7).2.2.1 (by decide) (by decide) ?_
      show Steps p.tables e below (s₁.setTop (mkF m 33 #[.val (.ref a0), .val (.int q), .val (.int (0 : Int32)), .val (.int (4 : Int32)), .val (.int (2 : Int32))] [])) _
      refine XS.iload X0.here hx rfl (hb hby d2_33) rfl ?_
      show Steps p.tables e below (s₁.setTop (mkF m 35 #[.val (.ref a0), .val (.int q), .val (.int (0 : Int32)), .val (.int (4 : Int32)), .val (.int (2 : Int32))] [(.int (2 : Int32))])) _
      refine XS.istoreN X0.here hx rfl (hb hby d2_35) rfl (l' := #[.val (.ref a0), .val (.int q), .val (.int (0 : Int32)), .val (.int (2 : Int32)), .val (.int (2 : Int32))]) rfl ?_
      show Steps p.tables e below (s₁.setTop (mkF m 36 #[.val (.ref a0), .val (.int q), .val (.int (0 : Int32)), .val (.int (2 : Int32)), .val (.int (2 : Int32))] [])) _
      refine XS.goto X0.here hx rfl (pc0 := 36) (pc' := 5) rfl (hb hby d2_36) (by decide) (by decide) ?_
      show Steps p.tables e below (s₁.setTop (mkF m 5 #[.val (.ref a0), .val (.int q), .val (.int (0 : Int32)), .val (.int (2 : Int32)), .val (.int (2 : Int32))] [])) _
      refine XS.iloadN X0.here hx rfl (hb hby d2_5) rfl ?_
      show Steps p.tables e below (s₁.setTop (mkF m 6 #[.val (.ref a0), .val (.int q), .val (.int (0 : Int32)), .val (.int (2 : Int32)), .val (.int (2 : Int32))] [(.int (0 : Int32))])) _
      refine XS.iloadN X0.here hx rfl (hb hby d2_6) rfl ?_
      show Steps p.tables e below (s₁.setTop (mkF m 7 #[.val (.ref a0), .val (.int q), .val (.int (0 : Int32)), .val (.int (2 : Int32)), .val (.int (2 : Int32))] [(.int (2 : Int32)), (.int (0 : Int32))])) _
      refine XS.icmpNo X0.here hx rfl (hb hby d2_7) rfl (tlt (by decide)).2.1 ?_
      show Steps p.tables e below (s₁.setTop (mkF m 10 #[.val (.ref a0), .val (.int q), .val (.int (0 : Int32)), .val (.int (2 : Int32)), .val (.int (2 : Int32))] [])) _
      refine XS.iloadN X0.here hx rfl (hb hby d2_10) rfl ?_
      show Steps p.tables e below (s₁.setTop (mkF m 11 #[.val (.ref a0), .val (.int q), .val (.int (0 : Int32)), .val (.int (2 : Int32)), .val (.int (2 : Int32))] [(.int (0 : Int32))])) _
      refine XS.iloadN X0.here hx rfl (hb hby d2_11) rfl ?_
      show Steps p.tables e below (s₁.setTop (mkF m 12 #[.val (.ref a0), .val (.int q), .val (.int (0 : Int32)), .val (.int (2 : Int32)), .val (.int (2 : Int32))] [(.int (2 : Int32)), (.int (0 : Int32))])) _
      refine XS.iadd X0.here hx rfl (hb hby d2_12) rfl ?_
      show Steps p.tables e below (s₁.setTop (mkF m 13 #[.val (.ref a0), .val (.int q), .val (.int (0 : Int32)), .val (.int (2 : Int32)), .val (.int (2 : Int32))] [(.int ((0 : Int32) + (2 : Int32)))])) _
      refine XS.iconst X0.here hx rfl (hb hby d2_13) ?_
      show Steps p.tables e below (s₁.setTop (mkF m 14 #[.val (.ref a0), .val (.int q), .val (.int (0 : Int32)), .val (.int (2 : Int32)), .val (.int (2 : Int32))] [(.int (1 : Int32)), (.int ((0 : Int32) + (2 : Int32)))])) _
      refine XS.iushr X0.here hx rfl (hb hby d2_14) rfl ?_
      show Steps p.tables e below (s₁.setTop (mkF m 15 #[.val (.ref a0), .val (.int q), .val (.int (0 : Int32)), .val (.int (2 : Int32)), .val (.int (2 : Int32))] [(.int ((((0 : Int32) + (2 : Int32)).toUInt32 >>> ((1 : Int32) &&& 31).toUInt32).toInt32))])) _
      refine XS.istore X0.here hx rfl (hb hby d2_15) rfl (l' := #[.val (.ref a0), .val (.int q), .val (.int (0 : Int32)), .val (.int (2 : Int32)), .val (.int ((((0 : Int32) + (2 : Int32)).toUInt32 >>> ((1 : Int32) &&& 31).toUInt32).toInt32))]) rfl ?_
      show Steps p.tables e below (s₁.setTop (mkF m 17 #[.val (.ref a0), .val (.int q), .val (.int (0 : Int32)), .val (.int (2 : Int32)), .val (.int ((((0 : Int32) + (2 : Int32)).toUInt32 >>> ((1 : Int32) &&& 31).toUInt32).toInt32))] [])) _
      exact kt
    rw [show ((((0 : Int32) + (2 : Int32)).toUInt32 >>> ((1 : Int32) &&& 31).toUInt32).toInt32) = (1 : Int32) from by decide] at K8
    have K9 : ∀ t, Steps p.tables e below (s₁.setTop (mkF m 20 #[.val (.ref a0), .val (.int q), .val (.int (0 : Int32)), .val (.int (2 : Int32)), .val (.int (1 : Int32))] [(.int (1 : Int32)), (.ref a0)])) t → Steps p.tables e below G0 t := by
      intro t kt
      refine K8 t ?_
      refine XS.aloadN X0.here hx rfl (hb hby d2_17) rfl rfl ?_
      show Steps p.tables e below (s₁.setTop (mkF m 18 #[.val (.ref a0), .val (.int q), .val (.int (0 : Int32)), .val (.int (2 : Int32)), .val (.int (1 : Int32))] [(.ref a0)])) _
      refine XS.iload X0.here hx rfl (hb hby d2_18) rfl ?_
      show Steps p.tables e below (s₁.setTop (mkF m 20 #[.val (.ref a0), .val (.int q), .val (.int (0 : Int32)), .val (.int (2 : Int32)), .val (.int (1 : Int32))] [(.int (1 : Int32)), (.ref a0)])) _
      exact kt
    obtain ⟨cl10, Ar10, qq10, S10, M10, H10, GG10⟩ := id V0
    have hin10 : ¬ ((1 : Int32) < 0 ∨ cl10.slots.size ≤ ((1 : Int32)).toNatClampNeg) := inb_of S10 ⟨by decide, by decide⟩
    have hat10 : cl10.slots[((1 : Int32)).toNatClampNeg]? = some (.int y1) := Has.at H10 hin10 rfl
    have K11 : ∀ t, Steps p.tables e below (s₁.setTop (mkF m 22 #[.val (.ref a0), .val (.int q), .val (.int (0 : Int32)), .val (.int (2 : Int32)), .val (.int (1 : Int32))] [(.int q), (.int y1)])) t → Steps p.tables e below G0 t := by
      intro t kt
      refine K9 t ?_
      refine X0.iaload hx (j := (1 : Int32)) (v := (.int y1)) (by rw [e0]; exact (Ar10).1) (State.isArrayOf_alike hZ.alike (Ar10).2.1) (Ar10).2.2 hin10 hat10 (g := (mkF m 20 #[.val (.ref a0), .val (.int q), .val (.int (0 : Int32)), .val (.int (2 : Int32)), .val (.int (1 : Int32))] [(.int (1 : Int32)), (.ref a0)])) rfl rfl (hb hby d2_20) _ ?_
      show Steps p.tables e below (s₁.setTop (mkF m 21 #[.val (.ref a0), .val (.int q), .val (.int (0 : Int32)), .val (.int (2 : Int32)), .val (.int (1 : Int32))] [(.int y1)])) _
      refine XS.iloadN X0.here hx rfl (hb hby d2_21) rfl ?_
      show Steps p.tables e below (s₁.setTop (mkF m 22 #[.val (.ref a0), .val (.int q), .val (.int (0 : Int32)), .val (.int (2 : Int32)), .val (.int (1 : Int32))] [(.int q), (.int y1)])) _
      exact kt
    by_cases hc12 : q < y1
    ·
      have K13 : ∀ t, Steps p.tables e below (s₁.setTop (mkF m 17 #[.val (.ref a0), .val (.int q), .val (.int (0 : Int32)), .val (.int (1 : Int32)), .val (.int ((((0 : Int32) + (1 : Int32)).toUInt32 >>> ((1 : Int32) &&& 31).toUInt32).toInt32))] [])) t → Steps p.tables e below G0 t := by
        intro t kt
        refine K11 t ?_
        refine XS.icmpYes X0.here hx rfl (pc0 := 22) (pc' := 33) rfl (hb hby d2_22) rfl (tlt hc12).2.2.1 (by decide) (by decide) ?_
        show Steps p.tables e below (s₁.setTop (mkF m 33 #[.val (.ref a0), .val (.int q), .val (.int (0 : Int32)), .val (.int (2 : Int32)), .val (.int (1 : Int32))] [])) _
        refine XS.iload X0.here hx rfl (hb hby d2_33) rfl ?_
        show Steps p.tables e below (s₁.setTop (mkF m 35 #[.val (.ref a0), .val (.int q), .val (.int (0 : Int32)), .val (.int (2 : Int32)), .val (.int (1 : Int32))] [(.int (1 : Int32))])) _
        refine XS.istoreN X0.here hx rfl (hb hby d2_35) rfl (l' := #[.val (.ref a0), .val (.int q), .val (.int (0 : Int32)), .val (.int (1 : Int32)), .val (.int (1 : Int32))]) rfl ?_
        show Steps p.tables e below (s₁.setTop (mkF m 36 #[.val (.ref a0), .val (.int q), .val (.int (0 : Int32)), .val (.int (1 : Int32)), .val (.int (1 : Int32))] [])) _
        refine XS.goto X0.here hx rfl (pc0 := 36) (pc' := 5) rfl (hb hby d2_36) (by decide) (by decide) ?_
        show Steps p.tables e below (s₁.setTop (mkF m 5 #[.val (.ref a0), .val (.int q), .val (.int (0 : Int32)), .val (.int (1 : Int32)), .val (.int (1 : Int32))] [])) _
        refine XS.iloadN X0.here hx rfl (hb hby d2_5) rfl ?_
        show Steps p.tables e below (s₁.setTop (mkF m 6 #[.val (.ref a0), .val (.int q), .val (.int (0 : Int32)), .val (.int (1 : Int32)), .val (.int (1 : Int32))] [(.int (0 : Int32))])) _
        refine XS.iloadN X0.here hx rfl (hb hby d2_6) rfl ?_
        show Steps p.tables e below (s₁.setTop (mkF m 7 #[.val (.ref a0), .val (.int q), .val (.int (0 : Int32)), .val (.int (1 : Int32)), .val (.int (1 : Int32))] [(.int (1 : Int32)), (.int (0 : Int32))])) _
        refine XS.icmpNo X0.here hx rfl (hb hby d2_7) rfl (tlt (by decide)).2.1 ?_
        show Steps p.tables e below (s₁.setTop (mkF m 10 #[.val (.ref a0), .val (.int q), .val (.int (0 : Int32)), .val (.int (1 : Int32)), .val (.int (1 : Int32))] [])) _
        refine XS.iloadN X0.here hx rfl (hb hby d2_10) rfl ?_
        show Steps p.tables e below (s₁.setTop (mkF m 11 #[.val (.ref a0), .val (.int q), .val (.int (0 : Int32)), .val (.int (1 : Int32)), .val (.int (1 : Int32))] [(.int (0 : Int32))])) _
        refine XS.iloadN X0.here hx rfl (hb hby d2_11) rfl ?_
        show Steps p.tables e below (s₁.setTop (mkF m 12 #[.val (.ref a0), .val (.int q), .val (.int (0 : Int32)), .val (.int (1 : Int32)), .val (.int (1 : Int32))] [(.int (1 : Int32)), (.int (0 : Int32))])) _
        refine XS.iadd X0.here hx rfl (hb hby d2_12) rfl ?_
        show Steps p.tables e below (s₁.setTop (mkF m 13 #[.val (.ref a0), .val (.int q), .val (.int (0 : Int32)), .val (.int (1 : Int32)), .val (.int (1 : Int32))] [(.int ((0 : Int32) + (1 : Int32)))])) _
        refine XS.iconst X0.here hx rfl (hb hby d2_13) ?_
        show Steps p.tables e below (s₁.setTop (mkF m 14 #[.val (.ref a0), .val (.int q), .val (.int (0 : Int32)), .val (.int (1 : Int32)), .val (.int (1 : Int32))] [(.int (1 : Int32)), (.int ((0 : Int32) + (1 : Int32)))])) _
        refine XS.iushr X0.here hx rfl (hb hby d2_14) rfl ?_
        show Steps p.tables e below (s₁.setTop (mkF m 15 #[.val (.ref a0), .val (.int q), .val (.int (0 : Int32)), .val (.int (1 : Int32)), .val (.int (1 : Int32))] [(.int ((((0 : Int32) + (1 : Int32)).toUInt32 >>> ((1 : Int32) &&& 31).toUInt32).toInt32))])) _
        refine XS.istore X0.here hx rfl (hb hby d2_15) rfl (l' := #[.val (.ref a0), .val (.int q), .val (.int (0 : Int32)), .val (.int (1 : Int32)), .val (.int ((((0 : Int32) + (1 : Int32)).toUInt32 >>> ((1 : Int32) &&& 31).toUInt32).toInt32))]) rfl ?_
        show Steps p.tables e below (s₁.setTop (mkF m 17 #[.val (.ref a0), .val (.int q), .val (.int (0 : Int32)), .val (.int (1 : Int32)), .val (.int ((((0 : Int32) + (1 : Int32)).toUInt32 >>> ((1 : Int32) &&& 31).toUInt32).toInt32))] [])) _
        exact kt
      rw [show ((((0 : Int32) + (1 : Int32)).toUInt32 >>> ((1 : Int32) &&& 31).toUInt32).toInt32) = (0 : Int32) from by decide] at K13
      have K14 : ∀ t, Steps p.tables e below (s₁.setTop (mkF m 20 #[.val (.ref a0), .val (.int q), .val (.int (0 : Int32)), .val (.int (1 : Int32)), .val (.int (0 : Int32))] [(.int (0 : Int32)), (.ref a0)])) t → Steps p.tables e below G0 t := by
        intro t kt
        refine K13 t ?_
        refine XS.aloadN X0.here hx rfl (hb hby d2_17) rfl rfl ?_
        show Steps p.tables e below (s₁.setTop (mkF m 18 #[.val (.ref a0), .val (.int q), .val (.int (0 : Int32)), .val (.int (1 : Int32)), .val (.int (0 : Int32))] [(.ref a0)])) _
        refine XS.iload X0.here hx rfl (hb hby d2_18) rfl ?_
        show Steps p.tables e below (s₁.setTop (mkF m 20 #[.val (.ref a0), .val (.int q), .val (.int (0 : Int32)), .val (.int (1 : Int32)), .val (.int (0 : Int32))] [(.int (0 : Int32)), (.ref a0)])) _
        exact kt
      obtain ⟨cl15, Ar15, qq15, S15, M15, H15, GG15⟩ := id V0
      have hin15 : ¬ ((0 : Int32) < 0 ∨ cl15.slots.size ≤ ((0 : Int32)).toNatClampNeg) := inb_of S15 ⟨by decide, by decide⟩
      have hat15 : cl15.slots[((0 : Int32)).toNatClampNeg]? = some (.int y0) := Has.at H15 hin15 rfl
      have K16 : ∀ t, Steps p.tables e below (s₁.setTop (mkF m 22 #[.val (.ref a0), .val (.int q), .val (.int (0 : Int32)), .val (.int (1 : Int32)), .val (.int (0 : Int32))] [(.int q), (.int y0)])) t → Steps p.tables e below G0 t := by
        intro t kt
        refine K14 t ?_
        refine X0.iaload hx (j := (0 : Int32)) (v := (.int y0)) (by rw [e0]; exact (Ar15).1) (State.isArrayOf_alike hZ.alike (Ar15).2.1) (Ar15).2.2 hin15 hat15 (g := (mkF m 20 #[.val (.ref a0), .val (.int q), .val (.int (0 : Int32)), .val (.int (1 : Int32)), .val (.int (0 : Int32))] [(.int (0 : Int32)), (.ref a0)])) rfl rfl (hb hby d2_20) _ ?_
        show Steps p.tables e below (s₁.setTop (mkF m 21 #[.val (.ref a0), .val (.int q), .val (.int (0 : Int32)), .val (.int (1 : Int32)), .val (.int (0 : Int32))] [(.int y0)])) _
        refine XS.iloadN X0.here hx rfl (hb hby d2_21) rfl ?_
        show Steps p.tables e below (s₁.setTop (mkF m 22 #[.val (.ref a0), .val (.int q), .val (.int (0 : Int32)), .val (.int (1 : Int32)), .val (.int (0 : Int32))] [(.int q), (.int y0)])) _
        exact kt
      by_cases hc17 : q < y0
      ·
        have K18 : ∀ t, Steps p.tables e below (s₁.setTop (mkF m 40 #[.val (.ref a0), .val (.int q), .val (.int (0 : Int32)), .val (.int (0 : Int32)), .val (.int (0 : Int32))] [(.int (0 : Int32))])) t → Steps p.tables e below G0 t := by
          intro t kt
          refine K16 t ?_
          refine XS.icmpYes X0.here hx rfl (pc0 := 22) (pc' := 33) rfl (hb hby d2_22) rfl (tlt hc17).2.2.1 (by decide) (by decide) ?_
          show Steps p.tables e below (s₁.setTop (mkF m 33 #[.val (.ref a0), .val (.int q), .val (.int (0 : Int32)), .val (.int (1 : Int32)), .val (.int (0 : Int32))] [])) _
          refine XS.iload X0.here hx rfl (hb hby d2_33) rfl ?_
          show Steps p.tables e below (s₁.setTop (mkF m 35 #[.val (.ref a0), .val (.int q), .val (.int (0 : Int32)), .val (.int (1 : Int32)), .val (.int (0 : Int32))] [(.int (0 : Int32))])) _
          refine XS.istoreN X0.here hx rfl (hb hby d2_35) rfl (l' := #[.val (.ref a0), .val (.int q), .val (.int (0 : Int32)), .val (.int (0 : Int32)), .val (.int (0 : Int32))]) rfl ?_
          show Steps p.tables e below (s₁.setTop (mkF m 36 #[.val (.ref a0), .val (.int q), .val (.int (0 : Int32)), .val (.int (0 : Int32)), .val (.int (0 : Int32))] [])) _
          refine XS.goto X0.here hx rfl (pc0 := 36) (pc' := 5) rfl (hb hby d2_36) (by decide) (by decide) ?_
          show Steps p.tables e below (s₁.setTop (mkF m 5 #[.val (.ref a0), .val (.int q), .val (.int (0 : Int32)), .val (.int (0 : Int32)), .val (.int (0 : Int32))] [])) _
          refine XS.iloadN X0.here hx rfl (hb hby d2_5) rfl ?_
          show Steps p.tables e below (s₁.setTop (mkF m 6 #[.val (.ref a0), .val (.int q), .val (.int (0 : Int32)), .val (.int (0 : Int32)), .val (.int (0 : Int32))] [(.int (0 : Int32))])) _
          refine XS.iloadN X0.here hx rfl (hb hby d2_6) rfl ?_
          show Steps p.tables e below (s₁.setTop (mkF m 7 #[.val (.ref a0), .val (.int q), .val (.int (0 : Int32)), .val (.int (0 : Int32)), .val (.int (0 : Int32))] [(.int (0 : Int32)), (.int (0 : Int32))])) _
          refine XS.icmpYes X0.here hx rfl (pc0 := 7) (pc' := 39) rfl (hb hby d2_7) rfl (flt (by decide)).2.1 (by decide) (by decide) ?_
          show Steps p.tables e below (s₁.setTop (mkF m 39 #[.val (.ref a0), .val (.int q), .val (.int (0 : Int32)), .val (.int (0 : Int32)), .val (.int (0 : Int32))] [])) _
          refine XS.iloadN X0.here hx rfl (hb hby d2_39) rfl ?_
          show Steps p.tables e below (s₁.setTop (mkF m 40 #[.val (.ref a0), .val (.int q), .val (.int (0 : Int32)), .val (.int (0 : Int32)), .val (.int (0 : Int32))] [(.int (0 : Int32))])) _
          exact kt
        have c0 :  q < y0 := by simp only [Int32.lt_iff_toInt_lt] at *; omega
        have c1 :  q < y1 := by simp only [Int32.lt_iff_toInt_lt] at *; omega
        have c2 :  q < y2 := by simp only [Int32.lt_iff_toInt_lt] at *; omega
        have c3 :  q < y3 := by simp only [Int32.lt_iff_toInt_lt] at *; omega
        obtain ⟨fs, hr, hrun, hended, hW, hsame⟩ := X0.leave (v := some (.int (0 : Int32))) (fun h => by rw [Bd.returns] at h; cases h)
        refine ⟨_, _, ?_, hrun, hended, _, _, rfl, ?_, ⟨_, rfl⟩, hW, hsame.mono (by decide) (by decide)⟩
        · rw [← hG0]
          refine K18 _ ?_
          exact retOut X0 hx (t := .int) Bd.returns rfl (Or.inl ⟨rfl, Or.inl rfl, _, rfl⟩) (hb hby d2_40) hr
        · show Q2_4 Z a0 q ka y0 y1 y2 y3 h0 n0 _ s₁.heap _
          rw [e0]
          exact ⟨by simp only [own_inc, c0, c1, c2, c3, if_true, if_false] <;> rfl, N0, rfl⟩
      ·
        have K19 : ∀ t, Steps p.tables e below (s₁.setTop (mkF m 5 #[.val (.ref a0), .val (.int q), .val (.int ((0 : Int32) + (1 : Int32))), .val (.int (1 : Int32)), .val (.int (0 : Int32))] [])) t → Steps p.tables e below G0 t := by
          intro t kt
          refine K16 t ?_
          refine XS.icmpNo X0.here hx rfl (hb hby d2_22) rfl (flt hc17).2.2.1 ?_
          show Steps p.tables e below (s₁.setTop (mkF m 25 #[.val (.ref a0), .val (.int q), .val (.int (0 : Int32)), .val (.int (1 : Int32)), .val (.int (0 : Int32))] [])) _
          refine XS.iload X0.here hx rfl (hb hby d2_25) rfl ?_
          show Steps p.tables e below (s₁.setTop (mkF m 27 #[.val (.ref a0), .val (.int q), .val (.int (0 : Int32)), .val (.int (1 : Int32)), .val (.int (0 : Int32))] [(.int (0 : Int32))])) _
          refine XS.iconst X0.here hx rfl (hb hby d2_27) ?_
          show Steps p.tables e below (s₁.setTop (mkF m 28 #[.val (.ref a0), .val (.int q), .val (.int (0 : Int32)), .val (.int (1 : Int32)), .val (.int (0 : Int32))] [(.int (1 : Int32)), (.int (0 : Int32))])) _
          refine XS.iadd X0.here hx rfl (hb hby d2_28) rfl ?_
          show Steps p.tables e below (s₁.setTop (mkF m 29 #[.val (.ref a0), .val (.int q), .val (.int (0 : Int32)), .val (.int (1 : Int32)), .val (.int (0 : Int32))] [(.int ((0 : Int32) + (1 : Int32)))])) _
          refine XS.istoreN X0.here hx rfl (hb hby d2_29) rfl (l' := #[.val (.ref a0), .val (.int q), .val (.int ((0 : Int32) + (1 : Int32))), .val (.int (1 : Int32)), .val (.int (0 : Int32))]) rfl ?_
          show Steps p.tables e below (s₁.setTop (mkF m 30 #[.val (.ref a0), .val (.int q), .val (.int ((0 : Int32) + (1 : Int32))), .val (.int (1 : Int32)), .val (.int (0 : Int32))] [])) _
          refine XS.goto X0.here hx rfl (pc0 := 30) (pc' := 36) rfl (hb hby d2_30) (by decide) (by decide) ?_
          show Steps p.tables e below (s₁.setTop (mkF m 36 #[.val (.ref a0), .val (.int q), .val (.int ((0 : Int32) + (1 : Int32))), .val (.int (1 : Int32)), .val (.int (0 : Int32))] [])) _
          refine XS.goto X0.here hx rfl (pc0 := 36) (pc' := 5) rfl (hb hby d2_36) (by decide) (by decide) ?_
          show Steps p.tables e below (s₁.setTop (mkF m 5 #[.val (.ref a0), .val (.int q), .val (.int ((0 : Int32) + (1 : Int32))), .val (.int (1 : Int32)), .val (.int (0 : Int32))] [])) _
          exact kt
        rw [show ((0 : Int32) + (1 : Int32)) = (1 : Int32) from by decide] at K19
        have K20 : ∀ t, Steps p.tables e below (s₁.setTop (mkF m 40 #[.val (.ref a0), .val (.int q), .val (.int (1 : Int32)), .val (.int (1 : Int32)), .val (.int (0 : Int32))] [(.int (1 : Int32))])) t → Steps p.tables e below G0 t := by
          intro t kt
          refine K19 t ?_
          refine XS.iloadN X0.here hx rfl (hb hby d2_5) rfl ?_
          show Steps p.tables e below (s₁.setTop (mkF m 6 #[.val (.ref a0), .val (.int q), .val (.int (1 : Int32)), .val (.int (1 : Int32)), .val (.int (0 : Int32))] [(.int (1 : Int32))])) _
          refine XS.iloadN X0.here hx rfl (hb hby d2_6) rfl ?_
          show Steps p.tables e below (s₁.setTop (mkF m 7 #[.val (.ref a0), .val (.int q), .val (.int (1 : Int32)), .val (.int (1 : Int32)), .val (.int (0 : Int32))] [(.int (1 : Int32)), (.int (1 : Int32))])) _
          refine XS.icmpYes X0.here hx rfl (pc0 := 7) (pc' := 39) rfl (hb hby d2_7) rfl (flt (by decide)).2.1 (by decide) (by decide) ?_
          show Steps p.tables e below (s₁.setTop (mkF m 39 #[.val (.ref a0), .val (.int q), .val (.int (1 : Int32)), .val (.int (1 : Int32)), .val (.int (0 : Int32))] [])) _
          refine XS.iloadN X0.here hx rfl (hb hby d2_39) rfl ?_
          show Steps p.tables e below (s₁.setTop (mkF m 40 #[.val (.ref a0), .val (.int q), .val (.int (1 : Int32)), .val (.int (1 : Int32)), .val (.int (0 : Int32))] [(.int (1 : Int32))])) _
          exact kt
        have c0 : ¬ q < y0 := by simp only [Int32.lt_iff_toInt_lt] at *; omega
        have c1 :  q < y1 := by simp only [Int32.lt_iff_toInt_lt] at *; omega
        have c2 :  q < y2 := by simp only [Int32.lt_iff_toInt_lt] at *; omega
        have c3 :  q < y3 := by simp only [Int32.lt_iff_toInt_lt] at *; omega
        obtain ⟨fs, hr, hrun, hended, hW, hsame⟩ := X0.leave (v := some (.int (1 : Int32))) (fun h => by rw [Bd.returns] at h; cases h)
        refine ⟨_, _, ?_, hrun, hended, _, _, rfl, ?_, ⟨_, rfl⟩, hW, hsame.mono (by decide) (by decide)⟩
        · rw [← hG0]
          refine K20 _ ?_
          exact retOut X0 hx (t := .int) Bd.returns rfl (Or.inl ⟨rfl, Or.inl rfl, _, rfl⟩) (hb hby d2_40) hr
        · show Q2_4 Z a0 q ka y0 y1 y2 y3 h0 n0 _ s₁.heap _
          rw [e0]
          exact ⟨by simp only [own_inc, c0, c1, c2, c3, if_true, if_false] <;> rfl, N0, rfl⟩
    ·
      have K21 : ∀ t, Steps p.tables e below (s₁.setTop (mkF m 5 #[.val (.ref a0), .val (.int q), .val (.int ((1 : Int32) + (1 : Int32))), .val (.int (2 : Int32)), .val (.int (1 : Int32))] [])) t → Steps p.tables e below G0 t := by
        intro t kt
        refine K11 t ?_
        refine XS.icmpNo X0.here hx rfl (hb hby d2_22) rfl (flt hc12).2.2.1 ?_
        show Steps p.tables e below (s₁.setTop (mkF m 25 #[.val (.ref a0), .val (.int q), .val (.int (0 : Int32)), .val (.int (2 : Int32)), .val (.int (1 : Int32))] [])) _
        refine XS.iload X0.here hx rfl (hb hby d2_25) rfl ?_
        show Steps p.tables e below (s₁.setTop (mkF m 27 #[.val (.ref a0), .val (.int q), .val (.int (0 : Int32)), .val (.int (2 : Int32)), .val (.int (1 : Int32))] [(.int (1 : Int32))])) _
        refine XS.iconst X0.here hx rfl (hb hby d2_27) ?_
        show Steps p.tables e below (s₁.setTop (mkF m 28 #[.val (.ref a0), .val (.int q), .val (.int (0 : Int32)), .val (.int (2 : Int32)), .val (.int (1 : Int32))] [(.int (1 : Int32)), (.int (1 : Int32))])) _
        refine XS.iadd X0.here hx rfl (hb hby d2_28) rfl ?_
        show Steps p.tables e below (s₁.setTop (mkF m 29 #[.val (.ref a0), .val (.int q), .val (.int (0 : Int32)), .val (.int (2 : Int32)), .val (.int (1 : Int32))] [(.int ((1 : Int32) + (1 : Int32)))])) _
        refine XS.istoreN X0.here hx rfl (hb hby d2_29) rfl (l' := #[.val (.ref a0), .val (.int q), .val (.int ((1 : Int32) + (1 : Int32))), .val (.int (2 : Int32)), .val (.int (1 : Int32))]) rfl ?_
        show Steps p.tables e below (s₁.setTop (mkF m 30 #[.val (.ref a0), .val (.int q), .val (.int ((1 : Int32) + (1 : Int32))), .val (.int (2 : Int32)), .val (.int (1 : Int32))] [])) _
        refine XS.goto X0.here hx rfl (pc0 := 30) (pc' := 36) rfl (hb hby d2_30) (by decide) (by decide) ?_
        show Steps p.tables e below (s₁.setTop (mkF m 36 #[.val (.ref a0), .val (.int q), .val (.int ((1 : Int32) + (1 : Int32))), .val (.int (2 : Int32)), .val (.int (1 : Int32))] [])) _
        refine XS.goto X0.here hx rfl (pc0 := 36) (pc' := 5) rfl (hb hby d2_36) (by decide) (by decide) ?_
        show Steps p.tables e below (s₁.setTop (mkF m 5 #[.val (.ref a0), .val (.int q), .val (.int ((1 : Int32) + (1 : Int32))), .val (.int (2 : Int32)), .val (.int (1 : Int32))] [])) _
        exact kt
      rw [show ((1 : Int32) + (1 : Int32)) = (2 : Int32) from by decide] at K21
      have K22 : ∀ t, Steps p.tables e below (s₁.setTop (mkF m 40 #[.val (.ref a0), .val (.int q), .val (.int (2 : Int32)), .val (.int (2 : Int32)), .val (.int (1 : Int32))] [(.int (2 : Int32))])) t → Steps p.tables e below G0 t := by
        intro t kt
        refine K21 t ?_
        refine XS.iloadN X0.here hx rfl (hb hby d2_5) rfl ?_
        show Steps p.tables e below (s₁.setTop (mkF m 6 #[.val (.ref a0), .val (.int q), .val (.int (2 : Int32)), .val (.int (2 : Int32)), .val (.int (1 : Int32))] [(.int (2 : Int32))])) _
        refine XS.iloadN X0.here hx rfl (hb hby d2_6) rfl ?_
        show Steps p.tables e below (s₁.setTop (mkF m 7 #[.val (.ref a0), .val (.int q), .val (.int (2 : Int32)), .val (.int (2 : Int32)), .val (.int (1 : Int32))] [(.int (2 : Int32)), (.int (2 : Int32))])) _
        refine XS.icmpYes X0.here hx rfl (pc0 := 7) (pc' := 39) rfl (hb hby d2_7) rfl (flt (by decide)).2.1 (by decide) (by decide) ?_
        show Steps p.tables e below (s₁.setTop (mkF m 39 #[.val (.ref a0), .val (.int q), .val (.int (2 : Int32)), .val (.int (2 : Int32)), .val (.int (1 : Int32))] [])) _
        refine XS.iloadN X0.here hx rfl (hb hby d2_39) rfl ?_
        show Steps p.tables e below (s₁.setTop (mkF m 40 #[.val (.ref a0), .val (.int q), .val (.int (2 : Int32)), .val (.int (2 : Int32)), .val (.int (1 : Int32))] [(.int (2 : Int32))])) _
        exact kt
      have c0 : ¬ q < y0 := by simp only [Int32.lt_iff_toInt_lt] at *; omega
      have c1 : ¬ q < y1 := by simp only [Int32.lt_iff_toInt_lt] at *; omega
      have c2 :  q < y2 := by simp only [Int32.lt_iff_toInt_lt] at *; omega
      have c3 :  q < y3 := by simp only [Int32.lt_iff_toInt_lt] at *; omega
      obtain ⟨fs, hr, hrun, hended, hW, hsame⟩ := X0.leave (v := some (.int (2 : Int32))) (fun h => by rw [Bd.returns] at h; cases h)
      refine ⟨_, _, ?_, hrun, hended, _, _, rfl, ?_, ⟨_, rfl⟩, hW, hsame.mono (by decide) (by decide)⟩
      · rw [← hG0]
        refine K22 _ ?_
        exact retOut X0 hx (t := .int) Bd.returns rfl (Or.inl ⟨rfl, Or.inl rfl, _, rfl⟩) (hb hby d2_40) hr
      · show Q2_4 Z a0 q ka y0 y1 y2 y3 h0 n0 _ s₁.heap _
        rw [e0]
        exact ⟨by simp only [own_inc, c0, c1, c2, c3, if_true, if_false] <;> rfl, N0, rfl⟩
  ·
    have K23 : ∀ t, Steps p.tables e below (s₁.setTop (mkF m 5 #[.val (.ref a0), .val (.int q), .val (.int ((2 : Int32) + (1 : Int32))), .val (.int (4 : Int32)), .val (.int (2 : Int32))] [])) t → Steps p.tables e below G0 t := by
      intro t kt
      refine K6 t ?_
      refine XS.icmpNo X0.here hx rfl (hb hby d2_22) rfl (flt hc7).2.2.1 ?_
      show Steps p.tables e below (s₁.setTop (mkF m 25 #[.val (.ref a0), .val (.int q), .val (.int (0 : Int32)), .val (.int (4 : Int32)), .val (.int (2 : Int32))] [])) _
      refine XS.iload X0.here hx rfl (hb hby d2_25) rfl ?_
      show Steps p.tables e below (s₁.setTop (mkF m 27 #[.val (.ref a0), .val (.int q), .val (.int (0 : Int32)), .val (.int (4 : Int32)), .val (.int (2 : Int32))] [(.int (2 : Int32))])) _
      refine XS.iconst X0.here hx rfl (hb hby d2_27) ?_
      show Steps p.tables e below (s₁.setTop (mkF m 28 #[.val (.ref a0), .val (.int q), .val (.int (0 : Int32)), .val (.int (4 : Int32)), .val (.int (2 : Int32))] [(.int (1 : Int32)), (.int (2 : Int32))])) _
      refine XS.iadd X0.here hx rfl (hb hby d2_28) rfl ?_
      show Steps p.tables e below (s₁.setTop (mkF m 29 #[.val (.ref a0), .val (.int q), .val (.int (0 : Int32)), .val (.int (4 : Int32)), .val (.int (2 : Int32))] [(.int ((2 : Int32) + (1 : Int32)))])) _
      refine XS.istoreN X0.here hx rfl (hb hby d2_29) rfl (l' := #[.val (.ref a0), .val (.int q), .val (.int ((2 : Int32) + (1 : Int32))), .val (.int (4 : Int32)), .val (.int (2 : Int32))]) rfl ?_
      show Steps p.tables e below (s₁.setTop (mkF m 30 #[.val (.ref a0), .val (.int q), .val (.int ((2 : Int32) + (1 : Int32))), .val (.int (4 : Int32)), .val (.int (2 : Int32))] [])) _
      refine XS.goto X0.here hx rfl (pc0 := 30) (pc' := 36) rfl (hb hby d2_30) (by decide) (by decide) ?_
      show Steps p.tables e below (s₁.setTop (mkF m 36 #[.val (.ref a0), .val (.int q), .val (.int ((2 : Int32) + (1 : Int32))), .val (.int (4 : Int32)), .val (.int (2 : Int32))] [])) _
      refine XS.goto X0.here hx rfl (pc0 := 36) (pc' := 5) rfl (hb hby d2_36) (by decide) (by decide) ?_
      show Steps p.tables e below (s₁.setTop (mkF m 5 #[.val (.ref a0), .val (.int q), .val (.int ((2 : Int32) + (1 : Int32))), .val (.int (4 : Int32)), .val (.int (2 : Int32))] [])) _
      exact kt
    rw [show ((2 : Int32) + (1 : Int32)) = (3 : Int32) from by decide] at K23
    have K24 : ∀ t, Steps p.tables e below (s₁.setTop (mkF m 17 #[.val (.ref a0), .val (.int q), .val (.int (3 : Int32)), .val (.int (4 : Int32)), .val (.int ((((3 : Int32) + (4 : Int32)).toUInt32 >>> ((1 : Int32) &&& 31).toUInt32).toInt32))] [])) t → Steps p.tables e below G0 t := by
      intro t kt
      refine K23 t ?_
      refine XS.iloadN X0.here hx rfl (hb hby d2_5) rfl ?_
      show Steps p.tables e below (s₁.setTop (mkF m 6 #[.val (.ref a0), .val (.int q), .val (.int (3 : Int32)), .val (.int (4 : Int32)), .val (.int (2 : Int32))] [(.int (3 : Int32))])) _
      refine XS.iloadN X0.here hx rfl (hb hby d2_6) rfl ?_
      show Steps p.tables e below (s₁.setTop (mkF m 7 #[.val (.ref a0), .val (.int q), .val (.int (3 : Int32)), .val (.int (4 : Int32)), .val (.int (2 : Int32))] [(.int (4 : Int32)), (.int (3 : Int32))])) _
      refine XS.icmpNo X0.here hx rfl (hb hby d2_7) rfl (tlt (by decide)).2.1 ?_
      show Steps p.tables e below (s₁.setTop (mkF m 10 #[.val (.ref a0), .val (.int q), .val (.int (3 : Int32)), .val (.int (4 : Int32)), .val (.int (2 : Int32))] [])) _
      refine XS.iloadN X0.here hx rfl (hb hby d2_10) rfl ?_
      show Steps p.tables e below (s₁.setTop (mkF m 11 #[.val (.ref a0), .val (.int q), .val (.int (3 : Int32)), .val (.int (4 : Int32)), .val (.int (2 : Int32))] [(.int (3 : Int32))])) _
      refine XS.iloadN X0.here hx rfl (hb hby d2_11) rfl ?_
      show Steps p.tables e below (s₁.setTop (mkF m 12 #[.val (.ref a0), .val (.int q), .val (.int (3 : Int32)), .val (.int (4 : Int32)), .val (.int (2 : Int32))] [(.int (4 : Int32)), (.int (3 : Int32))])) _
      refine XS.iadd X0.here hx rfl (hb hby d2_12) rfl ?_
      show Steps p.tables e below (s₁.setTop (mkF m 13 #[.val (.ref a0), .val (.int q), .val (.int (3 : Int32)), .val (.int (4 : Int32)), .val (.int (2 : Int32))] [(.int ((3 : Int32) + (4 : Int32)))])) _
      refine XS.iconst X0.here hx rfl (hb hby d2_13) ?_
      show Steps p.tables e below (s₁.setTop (mkF m 14 #[.val (.ref a0), .val (.int q), .val (.int (3 : Int32)), .val (.int (4 : Int32)), .val (.int (2 : Int32))] [(.int (1 : Int32)), (.int ((3 : Int32) + (4 : Int32)))])) _
      refine XS.iushr X0.here hx rfl (hb hby d2_14) rfl ?_
      show Steps p.tables e below (s₁.setTop (mkF m 15 #[.val (.ref a0), .val (.int q), .val (.int (3 : Int32)), .val (.int (4 : Int32)), .val (.int (2 : Int32))] [(.int ((((3 : Int32) + (4 : Int32)).toUInt32 >>> ((1 : Int32) &&& 31).toUInt32).toInt32))])) _
      refine XS.istore X0.here hx rfl (hb hby d2_15) rfl (l' := #[.val (.ref a0), .val (.int q), .val (.int (3 : Int32)), .val (.int (4 : Int32)), .val (.int ((((3 : Int32) + (4 : Int32)).toUInt32 >>> ((1 : Int32) &&& 31).toUInt32).toInt32))]) rfl ?_
      show Steps p.tables e below (s₁.setTop (mkF m 17 #[.val (.ref a0), .val (.int q), .val (.int (3 : Int32)), .val (.int (4 : Int32)), .val (.int ((((3 : Int32) + (4 : Int32)).toUInt32 >>> ((1 : Int32) &&& 31).toUInt32).toInt32))] [])) _
      exact kt
    rw [show ((((3 : Int32) + (4 : Int32)).toUInt32 >>> ((1 : Int32) &&& 31).toUInt32).toInt32) = (3 : Int32) from by decide] at K24
    have K25 : ∀ t, Steps p.tables e below (s₁.setTop (mkF m 20 #[.val (.ref a0), .val (.int q), .val (.int (3 : Int32)), .val (.int (4 : Int32)), .val (.int (3 : Int32))] [(.int (3 : Int32)), (.ref a0)])) t → Steps p.tables e below G0 t := by
      intro t kt
      refine K24 t ?_
      refine XS.aloadN X0.here hx rfl (hb hby d2_17) rfl rfl ?_
      show Steps p.tables e below (s₁.setTop (mkF m 18 #[.val (.ref a0), .val (.int q), .val (.int (3 : Int32)), .val (.int (4 : Int32)), .val (.int (3 : Int32))] [(.ref a0)])) _
      refine XS.iload X0.here hx rfl (hb hby d2_18) rfl ?_
      show Steps p.tables e below (s₁.setTop (mkF m 20 #[.val (.ref a0), .val (.int q), .val (.int (3 : Int32)), .val (.int (4 : Int32)), .val (.int (3 : Int32))] [(.int (3 : Int32)), (.ref a0)])) _
      exact kt
    obtain ⟨cl26, Ar26, qq26, S26, M26, H26, GG26⟩ := id V0
    have hin26 : ¬ ((3 : Int32) < 0 ∨ cl26.slots.size ≤ ((3 : Int32)).toNatClampNeg) := inb_of S26 ⟨by decide, by decide⟩
    have hat26 : cl26.slots[((3 : Int32)).toNatClampNeg]? = some (.int y3) := Has.at H26 hin26 rfl
    have K27 : ∀ t, Steps p.tables e below (s₁.setTop (mkF m 22 #[.val (.ref a0), .val (.int q), .val (.int (3 : Int32)), .val (.int (4 : Int32)), .val (.int (3 : Int32))] [(.int q), (.int y3)])) t → Steps p.tables e below G0 t := by
      intro t kt
      refine K25 t ?_
      refine X0.iaload hx (j := (3 : Int32)) (v := (.int y3)) (by rw [e0]; exact (Ar26).1) (State.isArrayOf_alike hZ.alike (Ar26).2.1) (Ar26).2.2 hin26 hat26 (g := (mkF m 20 #[.val (.ref a0), .val (.int q), .val (.int (3 : Int32)), .val (.int (4 : Int32)), .val (.int (3 : Int32))] [(.int (3 : Int32)), (.ref a0)])) rfl rfl (hb hby d2_20) _ ?_
      show Steps p.tables e below (s₁.setTop (mkF m 21 #[.val (.ref a0), .val (.int q), .val (.int (3 : Int32)), .val (.int (4 : Int32)), .val (.int (3 : Int32))] [(.int y3)])) _
      refine XS.iloadN X0.here hx rfl (hb hby d2_21) rfl ?_
      show Steps p.tables e below (s₁.setTop (mkF m 22 #[.val (.ref a0), .val (.int q), .val (.int (3 : Int32)), .val (.int (4 : Int32)), .val (.int (3 : Int32))] [(.int q), (.int y3)])) _
      exact kt
    by_cases hc28 : q < y3
    ·
      have K29 : ∀ t, Steps p.tables e below (s₁.setTop (mkF m 40 #[.val (.ref a0), .val (.int q), .val (.int (3 : Int32)), .val (.int (3 : Int32)), .val (.int (3 : Int32))] [(.int (3 : Int32))])) t → Steps p.tables e below G0 t := by
        intro t kt
        refine K27 t ?_
        refine XS.icmpYes X0.here hx rfl (pc0 := 22) (pc' := 33) rfl (hb hby d2_22) rfl (tlt hc28).2.2.1 (by decide) (by decide) ?_
        show Steps p.tables e below (s₁.setTop (mkF m 33 #[.val (.ref a0), .val (.int q), .val (.int (3 : Int32)), .val (.int (4 : Int32)), .val (.int (3 : Int32))] [])) _
        refine XS.iload X0.here hx rfl (hb hby d2_33) rfl ?_
        show Steps p.tables e below (s₁.setTop (mkF m 35 #[.val (.ref a0), .val (.int q), .val (.int (3 : Int32)), .val (.int (4 : Int32)), .val (.int (3 : Int32))] [(.int (3 : Int32))])) _
        refine XS.istoreN X0.here hx rfl (hb hby d2_35) rfl (l' := #[.val (.ref a0), .val (.int q), .val (.int (3 : Int32)), .val (.int (3 : Int32)), .val (.int (3 : Int32))]) rfl ?_
        show Steps p.tables e below (s₁.setTop (mkF m 36 #[.val (.ref a0), .val (.int q), .val (.int (3 : Int32)), .val (.int (3 : Int32)), .val (.int (3 : Int32))] [])) _
        refine XS.goto X0.here hx rfl (pc0 := 36) (pc' := 5) rfl (hb hby d2_36) (by decide) (by decide) ?_
        show Steps p.tables e below (s₁.setTop (mkF m 5 #[.val (.ref a0), .val (.int q), .val (.int (3 : Int32)), .val (.int (3 : Int32)), .val (.int (3 : Int32))] [])) _
        refine XS.iloadN X0.here hx rfl (hb hby d2_5) rfl ?_
        show Steps p.tables e below (s₁.setTop (mkF m 6 #[.val (.ref a0), .val (.int q), .val (.int (3 : Int32)), .val (.int (3 : Int32)), .val (.int (3 : Int32))] [(.int (3 : Int32))])) _
        refine XS.iloadN X0.here hx rfl (hb hby d2_6) rfl ?_
        show Steps p.tables e below (s₁.setTop (mkF m 7 #[.val (.ref a0), .val (.int q), .val (.int (3 : Int32)), .val (.int (3 : Int32)), .val (.int (3 : Int32))] [(.int (3 : Int32)), (.int (3 : Int32))])) _
        refine XS.icmpYes X0.here hx rfl (pc0 := 7) (pc' := 39) rfl (hb hby d2_7) rfl (flt (by decide)).2.1 (by decide) (by decide) ?_
        show Steps p.tables e below (s₁.setTop (mkF m 39 #[.val (.ref a0), .val (.int q), .val (.int (3 : Int32)), .val (.int (3 : Int32)), .val (.int (3 : Int32))] [])) _
        refine XS.iloadN X0.here hx rfl (hb hby d2_39) rfl ?_
        show Steps p.tables e below (s₁.setTop (mkF m 40 #[.val (.ref a0), .val (.int q), .val (.int (3 : Int32)), .val (.int (3 : Int32)), .val (.int (3 : Int32))] [(.int (3 : Int32))])) _
        exact kt
      have c0 : ¬ q < y0 := by simp only [Int32.lt_iff_toInt_lt] at *; omega
      have c1 : ¬ q < y1 := by simp only [Int32.lt_iff_toInt_lt] at *; omega
      have c2 : ¬ q < y2 := by simp only [Int32.lt_iff_toInt_lt] at *; omega
      have c3 :  q < y3 := by simp only [Int32.lt_iff_toInt_lt] at *; omega
      obtain ⟨fs, hr, hrun, hended, hW, hsame⟩ := X0.leave (v := some (.int (3 : Int32))) (fun h => by rw [Bd.returns] at h; cases h)
      refine ⟨_, _, ?_, hrun, hended, _, _, rfl, ?_, ⟨_, rfl⟩, hW, hsame.mono (by decide) (by decide)⟩
      · rw [← hG0]
        refine K29 _ ?_
        exact retOut X0 hx (t := .int) Bd.returns rfl (Or.inl ⟨rfl, Or.inl rfl, _, rfl⟩) (hb hby d2_40) hr
      · show Q2_4 Z a0 q ka y0 y1 y2 y3 h0 n0 _ s₁.heap _
        rw [e0]
        exact ⟨by simp only [own_inc, c0, c1, c2, c3, if_true, if_false] <;> rfl, N0, rfl⟩
    ·
      have K30 : ∀ t, Steps p.tables e below (s₁.setTop (mkF m 5 #[.val (.ref a0), .val (.int q), .val (.int ((3 : Int32) + (1 : Int32))), .val (.int (4 : Int32)), .val (.int (3 : Int32))] [])) t → Steps p.tables e below G0 t := by
        intro t kt
        refine K27 t ?_
        refine XS.icmpNo X0.here hx rfl (hb hby d2_22) rfl (flt hc28).2.2.1 ?_
        show Steps p.tables e below (s₁.setTop (mkF m 25 #[.val (.ref a0), .val (.int q), .val (.int (3 : Int32)), .val (.int (4 : Int32)), .val (.int (3 : Int32))] [])) _
        refine XS.iload X0.here hx rfl (hb hby d2_25) rfl ?_
        show Steps p.tables e below (s₁.setTop (mkF m 27 #[.val (.ref a0), .val (.int q), .val (.int (3 : Int32)), .val (.int (4 : Int32)), .val (.int (3 : Int32))] [(.int (3 : Int32))])) _
        refine XS.iconst X0.here hx rfl (hb hby d2_27) ?_
        show Steps p.tables e below (s₁.setTop (mkF m 28 #[.val (.ref a0), .val (.int q), .val (.int (3 : Int32)), .val (.int (4 : Int32)), .val (.int (3 : Int32))] [(.int (1 : Int32)), (.int (3 : Int32))])) _
        refine XS.iadd X0.here hx rfl (hb hby d2_28) rfl ?_
        show Steps p.tables e below (s₁.setTop (mkF m 29 #[.val (.ref a0), .val (.int q), .val (.int (3 : Int32)), .val (.int (4 : Int32)), .val (.int (3 : Int32))] [(.int ((3 : Int32) + (1 : Int32)))])) _
        refine XS.istoreN X0.here hx rfl (hb hby d2_29) rfl (l' := #[.val (.ref a0), .val (.int q), .val (.int ((3 : Int32) + (1 : Int32))), .val (.int (4 : Int32)), .val (.int (3 : Int32))]) rfl ?_
        show Steps p.tables e below (s₁.setTop (mkF m 30 #[.val (.ref a0), .val (.int q), .val (.int ((3 : Int32) + (1 : Int32))), .val (.int (4 : Int32)), .val (.int (3 : Int32))] [])) _
        refine XS.goto X0.here hx rfl (pc0 := 30) (pc' := 36) rfl (hb hby d2_30) (by decide) (by decide) ?_
        show Steps p.tables e below (s₁.setTop (mkF m 36 #[.val (.ref a0), .val (.int q), .val (.int ((3 : Int32) + (1 : Int32))), .val (.int (4 : Int32)), .val (.int (3 : Int32))] [])) _
        refine XS.goto X0.here hx rfl (pc0 := 36) (pc' := 5) rfl (hb hby d2_36) (by decide) (by decide) ?_
        show Steps p.tables e below (s₁.setTop (mkF m 5 #[.val (.ref a0), .val (.int q), .val (.int ((3 : Int32) + (1 : Int32))), .val (.int (4 : Int32)), .val (.int (3 : Int32))] [])) _
        exact kt
      rw [show ((3 : Int32) + (1 : Int32)) = (4 : Int32) from by decide] at K30
      have K31 : ∀ t, Steps p.tables e below (s₁.setTop (mkF m 40 #[.val (.ref a0), .val (.int q), .val (.int (4 : Int32)), .val (.int (4 : Int32)), .val (.int (3 : Int32))] [(.int (4 : Int32))])) t → Steps p.tables e below G0 t := by
        intro t kt
        refine K30 t ?_
        refine XS.iloadN X0.here hx rfl (hb hby d2_5) rfl ?_
        show Steps p.tables e below (s₁.setTop (mkF m 6 #[.val (.ref a0), .val (.int q), .val (.int (4 : Int32)), .val (.int (4 : Int32)), .val (.int (3 : Int32))] [(.int (4 : Int32))])) _
        refine XS.iloadN X0.here hx rfl (hb hby d2_6) rfl ?_
        show Steps p.tables e below (s₁.setTop (mkF m 7 #[.val (.ref a0), .val (.int q), .val (.int (4 : Int32)), .val (.int (4 : Int32)), .val (.int (3 : Int32))] [(.int (4 : Int32)), (.int (4 : Int32))])) _
        refine XS.icmpYes X0.here hx rfl (pc0 := 7) (pc' := 39) rfl (hb hby d2_7) rfl (flt (by decide)).2.1 (by decide) (by decide) ?_
        show Steps p.tables e below (s₁.setTop (mkF m 39 #[.val (.ref a0), .val (.int q), .val (.int (4 : Int32)), .val (.int (4 : Int32)), .val (.int (3 : Int32))] [])) _
        refine XS.iloadN X0.here hx rfl (hb hby d2_39) rfl ?_
        show Steps p.tables e below (s₁.setTop (mkF m 40 #[.val (.ref a0), .val (.int q), .val (.int (4 : Int32)), .val (.int (4 : Int32)), .val (.int (3 : Int32))] [(.int (4 : Int32))])) _
        exact kt
      have c0 : ¬ q < y0 := by simp only [Int32.lt_iff_toInt_lt] at *; omega
      have c1 : ¬ q < y1 := by simp only [Int32.lt_iff_toInt_lt] at *; omega
      have c2 : ¬ q < y2 := by simp only [Int32.lt_iff_toInt_lt] at *; omega
      have c3 : ¬ q < y3 := by simp only [Int32.lt_iff_toInt_lt] at *; omega
      obtain ⟨fs, hr, hrun, hended, hW, hsame⟩ := X0.leave (v := some (.int (4 : Int32))) (fun h => by rw [Bd.returns] at h; cases h)
      refine ⟨_, _, ?_, hrun, hended, _, _, rfl, ?_, ⟨_, rfl⟩, hW, hsame.mono (by decide) (by decide)⟩
      · rw [← hG0]
        refine K31 _ ?_
        exact retOut X0 hx (t := .int) Bd.returns rfl (Or.inl ⟨rfl, Or.inl rfl, _, rfl⟩) (hb hby d2_40) hr
      · show Q2_4 Z a0 q ka y0 y1 y2 y3 h0 n0 _ s₁.heap _
        rw [e0]
        exact ⟨by simp only [own_inc, c0, c1, c2, c3, if_true, if_false] <;> rfl, N0, rfl⟩
theorem pd_P_IIIQV : parseMethodDescriptor "([III)V" = some ⟨[(.array .int), .int, .int], none⟩ := by decide +kernel
theorem pd_P_IIQI : parseMethodDescriptor "([II)I" = some ⟨[(.array .int), .int], some .int⟩ := by decide +kernel
theorem ef_rm0 (m : MethodId) (p0 : Int32) (p1 : Int32) (p2 : Int32) (p3 : Int32) (bd : Int32) (sel : Int32) : entryFrame m #[(.int p0), (.int p1), (.int p2), (.int p3), (.int bd), (.int sel)] maxLocals = (mkF m 0 #[.val (.int p0), .val (.int p1), .val (.int p2), .val (.int p3), .val (.int bd), .val (.int sel), .unset, .unset, .unset, .unset, .unset, .unset] []) := by first | (simp [entryFrame, mkF, argsToLocals, Value.category, maxLocals]; done) | rfl
def Q0 (Z : State) (p0 : Int32) (p1 : Int32) (p2 : Int32) (p3 : Int32) (bd : Int32) (sel : Int32) (h0 : Heap) (n0 : Nat) (v : Option Value) (h : Heap) (L : List Loc) : Prop := v = some (.int 1) ∧ Fr n0 L
set_option maxRecDepth 65536 in
set_option maxHeartbeats 40000000 in
theorem rm0 (l : Launch) (Z : State) (aa : Array Value) (hw : ∀ d ∈ tables_1, d.before aa Z = true) (ws : List Jvm.Cond) (p0 : Int32) (p1 : Int32) (p2 : Int32) (p3 : Int32) (bd : Int32) (sel : Int32) (h0 : Heap) (n0 : Nat) (Z0 : n0 ≤ h0.size) :
    MetFree l x (head1 (Jvm.Cond.code x code maxLocals ret :: ws) room_1) (fun a U => a = #[(.int p0), (.int p1), (.int p2), (.int p3), (.int bd), (.int sel)] ∧ Z.Warmed39 U.vm ∧ U.heap = h0) (fun _ _ _ _ _ => True) (fun _ U o U' => ∃ v L, o = .returned v ∧ Q0 Z p0 p1 p2 p3 bd sel h0 n0 v U'.heap L ∧ FrameEnd U o U' L room_1.cells room_1.slots) := by
  refine MetFree.of_bodySF (plainFor_of_name pn_com_example_lichen_lichen_analysis_RunsCountUpToPinLaw) hisR ?_
  intro p e s m args below meth c s₁ Bd hml0 hP hK
  obtain ⟨rfl, hZ, hh⟩ := hP
  have hx := Bd.exec
  have hby := Bd.bytes
  have hml : c.maxLocals = 12 := hml0
  have hown : s.vm.findClass "com/example/lichen/lichen/analysis/RunsCountUpToPinLaw" = some m.cls := findClass_of_methodNamed Bd.named
  have hnm := (name_of_methodNamed Bd.named Bd.method).1
  have X0 : Stand p l e room_1 s m #[(.int p0), (.int p1), (.int p2), (.int p3), (.int bd), (.int sel)] below meth c s₁ [] 0 0 := Stand.of_body Bd
  have e0 : s₁.heap = h0 := by rw [← hh, Bd.state]; rfl
  have N0 := Fr.nil n0
  obtain ⟨G0, hG0⟩ : ∃ G, G = s₁.setTop (entryFrame m #[(.int p0), (.int p1), (.int p2), (.int p3), (.int bd), (.int sel)] maxLocals) := ⟨_, rfl⟩
  have K0 : ∀ t, Steps p.tables e below (s₁.setTop (mkF m 0 #[.val (.int p0), .val (.int p1), .val (.int p2), .val (.int p3), .val (.int bd), .val (.int sel), .unset, .unset, .unset, .unset, .unset, .unset] [])) t → Steps p.tables e below G0 t := fun t k => by rw [hG0]; exact castTop (ef_rm0 m p0 p1 p2 p3 bd sel) k
  have K1 : ∀ t, Steps p.tables e below (s₁.setTop (mkF m 1 #[.val (.int p0), .val (.int p1), .val (.int p2), .val (.int p3), .val (.int bd), .val (.int sel), .unset, .unset, .unset, .unset, .unset, .unset] [(.int (4 : Int32))])) t → Steps p.tables e below G0 t := by
    intro t kt
    refine K0 t ?_
    refine XS.iconst X0.here hx rfl (hb hby at_0) ?_
    show Steps p.tables e below (s₁.setTop (mkF m 1 #[.val (.int p0), .val (.int p1), .val (.int p2), .val (.int p3), .val (.int bd), .val (.int sel), .unset, .unset, .unset, .unset, .unset, .unset] [(.int (4 : Int32))])) _
    exact kt
  obtain ⟨T2, h2, k2, X2, e2, E2, A2, st2⟩ := newP X0 hx hZ (hw _ (List.mem_of_getElem? (i := 0) rfl)) e0 (g := (mkF m 1 #[.val (.int p0), .val (.int p1), .val (.int p2), .val (.int p3), .val (.int bd), .val (.int sel), .unset, .unset, .unset, .unset, .unset, .unset] [(.int (4 : Int32))])) rfl (hb hby at_1) rfl (by decide) (cap := 4) (by decide) (by decide) (by decide) (by decide)
  obtain ⟨b2, g2⟩ : ∃ z, z = h0.size := ⟨_, rfl⟩
  rw [← g2] at A2 st2
  have V2 := Arv.new A2 (by decide)
  have gn2 : n0 ≤ b2 := Nat.le_trans Z0 (Nat.le_of_eq g2.symm)
  have Z2 : n0 ≤ h2.size := Nat.le_trans Z0 E2.1
  have K2 : ∀ t, Steps p.tables e below (T2.setTop (mkF m 3 #[.val (.int p0), .val (.int p1), .val (.int p2), .val (.int p3), .val (.int bd), .val (.int sel), .unset, .unset, .unset, .unset, .unset, .unset] [(.ref b2)])) t → Steps p.tables e below G0 t := fun t kt => K1 t (st2 _ kt)
  have VL2 : Arv Z h2 b2 k2 .int (4 : Int32) [(.int (0 : Int32)), (.int (0 : Int32)), (.int (0 : Int32)), (.int (0 : Int32))] (.int (0 : Int32)) := V2.pad (pad_rep [] (.int (0 : Int32)) 4)
  have K3 : ∀ t, Steps p.tables e below (T2.setTop (mkF m 6 #[.val (.int p0), .val (.int p1), .val (.int p2), .val (.int p3), .val (.int bd), .val (.int sel), .unset, .unset, .unset, .unset, .unset, .unset] [(.int p0), (.int (0 : Int32)), (.ref b2), (.ref b2)])) t → Steps p.tables e below G0 t := by
    intro t kt
    refine K2 t ?_
    refine XS.dup X2.here hx rfl (hb hby at_3) rfl rfl ?_
    show Steps p.tables e below (T2.setTop (mkF m 4 #[.val (.int p0), .val (.int p1), .val (.int p2), .val (.int p3), .val (.int bd), .val (.int sel), .unset, .unset, .unset, .unset, .unset, .unset] [(.ref b2), (.ref b2)])) _
    refine XS.iconst X2.here hx rfl (hb hby at_4) ?_
    show Steps p.tables e below (T2.setTop (mkF m 5 #[.val (.int p0), .val (.int p1), .val (.int p2), .val (.int p3), .val (.int bd), .val (.int sel), .unset, .unset, .unset, .unset, .unset, .unset] [(.int (0 : Int32)), (.ref b2), (.ref b2)])) _
    refine XS.iloadN X2.here hx rfl (hb hby at_5) rfl ?_
    show Steps p.tables e below (T2.setTop (mkF m 6 #[.val (.int p0), .val (.int p1), .val (.int p2), .val (.int p3), .val (.int bd), .val (.int sel), .unset, .unset, .unset, .unset, .unset, .unset] [(.int p0), (.int (0 : Int32)), (.ref b2), (.ref b2)])) _
    exact kt
  obtain ⟨cl4, Ar4, qq4, S4, M4, H4, GG4⟩ := id VL2
  have hin4 : ¬ ((0 : Int32) < 0 ∨ cl4.slots.size ≤ ((0 : Int32)).toNatClampNeg) := inb_of S4 ⟨by decide, by decide⟩
  obtain ⟨T5, h5, X5, e5, W5, st5⟩ := stI X2 hx hZ e2 Ar4 (j := (0 : Int32)) hin4 (g := (mkF m 6 #[.val (.int p0), .val (.int p1), .val (.int p2), .val (.int p3), .val (.int bd), .val (.int sel), .unset, .unset, .unset, .unset, .unset, .unset] [(.int p0), (.int (0 : Int32)), (.ref b2), (.ref b2)])) rfl rfl (hb hby at_6)
  have K5 : ∀ t, Steps p.tables e below (T5.setTop (mkF m 7 #[.val (.int p0), .val (.int p1), .val (.int p2), .val (.int p3), .val (.int bd), .val (.int sel), .unset, .unset, .unset, .unset, .unset, .unset] [(.ref b2)])) t → Steps p.tables e below G0 t := fun t kt => K3 t (st5 _ kt)
  have Z5 : n0 ≤ h5.size := Nat.le_trans Z2 (Keep.of_wr W5).1
  have VL5 : Arv Z h5 b2 k2 .int (4 : Int32) [(.int p0), (.int (0 : Int32)), (.int (0 : Int32)), (.int (0 : Int32))] (.int (0 : Int32)) := Arv.set Ar4 qq4 S4 M4 H4 GG4 rfl W5 0 rfl (Nat.le_of_ble_eq_true rfl)
  have N5 := Fr.snoc X5 N0 gn2
  have K6 : ∀ t, Steps p.tables e below (T5.setTop (mkF m 10 #[.val (.int p0), .val (.int p1), .val (.int p2), .val (.int p3), .val (.int bd), .val (.int sel), .unset, .unset, .unset, .unset, .unset, .unset] [(.int p1), (.int (1 : Int32)), (.ref b2), (.ref b2)])) t → Steps p.tables e below G0 t := by
    intro t kt
    refine K5 t ?_
    refine XS.dup X5.here hx rfl (hb hby at_7) rfl rfl ?_
    show Steps p.tables e below (T5.setTop (mkF m 8 #[.val (.int p0), .val (.int p1), .val (.int p2), .val (.int p3), .val (.int bd), .val (.int sel), .unset, .unset, .unset, .unset, .unset, .unset] [(.ref b2), (.ref b2)])) _
    refine XS.iconst X5.here hx rfl (hb hby at_8) ?_
    show Steps p.tables e below (T5.setTop (mkF m 9 #[.val (.int p0), .val (.int p1), .val (.int p2), .val (.int p3), .val (.int bd), .val (.int sel), .unset, .unset, .unset, .unset, .unset, .unset] [(.int (1 : Int32)), (.ref b2), (.ref b2)])) _
    refine XS.iloadN X5.here hx rfl (hb hby at_9) rfl ?_
    show Steps p.tables e below (T5.setTop (mkF m 10 #[.val (.int p0), .val (.int p1), .val (.int p2), .val (.int p3), .val (.int bd), .val (.int sel), .unset, .unset, .unset, .unset, .unset, .unset] [(.int p1), (.int (1 : Int32)), (.ref b2), (.ref b2)])) _
    exact kt
  obtain ⟨cl7, Ar7, qq7, S7, M7, H7, GG7⟩ := id VL5
  have hin7 : ¬ ((1 : Int32) < 0 ∨ cl7.slots.size ≤ ((1 : Int32)).toNatClampNeg) := inb_of S7 ⟨by decide, by decide⟩
  obtain ⟨T8, h8, X8, e8, W8, st8⟩ := stI X5 hx hZ e5 Ar7 (j := (1 : Int32)) hin7 (g := (mkF m 10 #[.val (.int p0), .val (.int p1), .val (.int p2), .val (.int p3), .val (.int bd), .val (.int sel), .unset, .unset, .unset, .unset, .unset, .unset] [(.int p1), (.int (1 : Int32)), (.ref b2), (.ref b2)])) rfl rfl (hb hby at_10)
  have K8 : ∀ t, Steps p.tables e below (T8.setTop (mkF m 11 #[.val (.int p0), .val (.int p1), .val (.int p2), .val (.int p3), .val (.int bd), .val (.int sel), .unset, .unset, .unset, .unset, .unset, .unset] [(.ref b2)])) t → Steps p.tables e below G0 t := fun t kt => K6 t (st8 _ kt)
  have Z8 : n0 ≤ h8.size := Nat.le_trans Z5 (Keep.of_wr W8).1
  have VL8 : Arv Z h8 b2 k2 .int (4 : Int32) [(.int p0), (.int p1), (.int (0 : Int32)), (.int (0 : Int32))] (.int (0 : Int32)) := Arv.set Ar7 qq7 S7 M7 H7 GG7 rfl W8 1 rfl (Nat.le_of_ble_eq_true rfl)
  have N8 := Fr.snoc X8 N5 gn2
  have K9 : ∀ t, Steps p.tables e below (T8.setTop (mkF m 14 #[.val (.int p0), .val (.int p1), .val (.int p2), .val (.int p3), .val (.int bd), .val (.int sel), .unset, .unset, .unset, .unset, .unset, .unset] [(.int p2), (.int (2 : Int32)), (.ref b2), (.ref b2)])) t → Steps p.tables e below G0 t := by
    intro t kt
    refine K8 t ?_
    refine XS.dup X8.here hx rfl (hb hby at_11) rfl rfl ?_
    show Steps p.tables e below (T8.setTop (mkF m 12 #[.val (.int p0), .val (.int p1), .val (.int p2), .val (.int p3), .val (.int bd), .val (.int sel), .unset, .unset, .unset, .unset, .unset, .unset] [(.ref b2), (.ref b2)])) _
    refine XS.iconst X8.here hx rfl (hb hby at_12) ?_
    show Steps p.tables e below (T8.setTop (mkF m 13 #[.val (.int p0), .val (.int p1), .val (.int p2), .val (.int p3), .val (.int bd), .val (.int sel), .unset, .unset, .unset, .unset, .unset, .unset] [(.int (2 : Int32)), (.ref b2), (.ref b2)])) _
    refine XS.iloadN X8.here hx rfl (hb hby at_13) rfl ?_
    show Steps p.tables e below (T8.setTop (mkF m 14 #[.val (.int p0), .val (.int p1), .val (.int p2), .val (.int p3), .val (.int bd), .val (.int sel), .unset, .unset, .unset, .unset, .unset, .unset] [(.int p2), (.int (2 : Int32)), (.ref b2), (.ref b2)])) _
    exact kt
  obtain ⟨cl10, Ar10, qq10, S10, M10, H10, GG10⟩ := id VL8
  have hin10 : ¬ ((2 : Int32) < 0 ∨ cl10.slots.size ≤ ((2 : Int32)).toNatClampNeg) := inb_of S10 ⟨by decide, by decide⟩
  obtain ⟨T11, h11, X11, e11, W11, st11⟩ := stI X8 hx hZ e8 Ar10 (j := (2 : Int32)) hin10 (g := (mkF m 14 #[.val (.int p0), .val (.int p1), .val (.int p2), .val (.int p3), .val (.int bd), .val (.int sel), .unset, .unset, .unset, .unset, .unset, .unset] [(.int p2), (.int (2 : Int32)), (.ref b2), (.ref b2)])) rfl rfl (hb hby at_14)
  have K11 : ∀ t, Steps p.tables e below (T11.setTop (mkF m 15 #[.val (.int p0), .val (.int p1), .val (.int p2), .val (.int p3), .val (.int bd), .val (.int sel), .unset, .unset, .unset, .unset, .unset, .unset] [(.ref b2)])) t → Steps p.tables e below G0 t := fun t kt => K9 t (st11 _ kt)
  have Z11 : n0 ≤ h11.size := Nat.le_trans Z8 (Keep.of_wr W11).1
  have VL11 : Arv Z h11 b2 k2 .int (4 : Int32) [(.int p0), (.int p1), (.int p2), (.int (0 : Int32))] (.int (0 : Int32)) := Arv.set Ar10 qq10 S10 M10 H10 GG10 rfl W11 2 rfl (Nat.le_of_ble_eq_true rfl)
  have N11 := Fr.snoc X11 N8 gn2
  have K12 : ∀ t, Steps p.tables e below (T11.setTop (mkF m 18 #[.val (.int p0), .val (.int p1), .val (.int p2), .val (.int p3), .val (.int bd), .val (.int sel), .unset, .unset, .unset, .unset, .unset, .unset] [(.int p3), (.int (3 : Int32)), (.ref b2), (.ref b2)])) t → Steps p.tables e below G0 t := by
    intro t kt
    refine K11 t ?_
    refine XS.dup X11.here hx rfl (hb hby at_15) rfl rfl ?_
    show Steps p.tables e below (T11.setTop (mkF m 16 #[.val (.int p0), .val (.int p1), .val (.int p2), .val (.int p3), .val (.int bd), .val (.int sel), .unset, .unset, .unset, .unset, .unset, .unset] [(.ref b2), (.ref b2)])) _
    refine XS.iconst X11.here hx rfl (hb hby at_16) ?_
    show Steps p.tables e below (T11.setTop (mkF m 17 #[.val (.int p0), .val (.int p1), .val (.int p2), .val (.int p3), .val (.int bd), .val (.int sel), .unset, .unset, .unset, .unset, .unset, .unset] [(.int (3 : Int32)), (.ref b2), (.ref b2)])) _
    refine XS.iloadN X11.here hx rfl (hb hby at_17) rfl ?_
    show Steps p.tables e below (T11.setTop (mkF m 18 #[.val (.int p0), .val (.int p1), .val (.int p2), .val (.int p3), .val (.int bd), .val (.int sel), .unset, .unset, .unset, .unset, .unset, .unset] [(.int p3), (.int (3 : Int32)), (.ref b2), (.ref b2)])) _
    exact kt
  obtain ⟨cl13, Ar13, qq13, S13, M13, H13, GG13⟩ := id VL11
  have hin13 : ¬ ((3 : Int32) < 0 ∨ cl13.slots.size ≤ ((3 : Int32)).toNatClampNeg) := inb_of S13 ⟨by decide, by decide⟩
  obtain ⟨T14, h14, X14, e14, W14, st14⟩ := stI X11 hx hZ e11 Ar13 (j := (3 : Int32)) hin13 (g := (mkF m 18 #[.val (.int p0), .val (.int p1), .val (.int p2), .val (.int p3), .val (.int bd), .val (.int sel), .unset, .unset, .unset, .unset, .unset, .unset] [(.int p3), (.int (3 : Int32)), (.ref b2), (.ref b2)])) rfl rfl (hb hby at_18)
  have K14 : ∀ t, Steps p.tables e below (T14.setTop (mkF m 19 #[.val (.int p0), .val (.int p1), .val (.int p2), .val (.int p3), .val (.int bd), .val (.int sel), .unset, .unset, .unset, .unset, .unset, .unset] [(.ref b2)])) t → Steps p.tables e below G0 t := fun t kt => K12 t (st14 _ kt)
  have Z14 : n0 ≤ h14.size := Nat.le_trans Z11 (Keep.of_wr W14).1
  have VL14 : Arv Z h14 b2 k2 .int (4 : Int32) [(.int p0), (.int p1), (.int p2), (.int p3)] (.int (0 : Int32)) := Arv.set Ar13 qq13 S13 M13 H13 GG13 rfl W14 3 rfl (Nat.le_of_ble_eq_true rfl)
  have N14 := Fr.snoc X14 N11 gn2
  have K15 : ∀ t, Steps p.tables e below (T14.setTop (mkF m 25 #[.val (.int p0), .val (.int p1), .val (.int p2), .val (.int p3), .val (.int bd), .val (.int sel), .val (.ref b2), .unset, .unset, .unset, .unset, .unset] [(.int (1 : Int32)), (.int (0 : Int32)), (.ref b2)])) t → Steps p.tables e below G0 t := by
    intro t kt
    refine K14 t ?_
    refine XS.astore X14.here hx rfl (hb hby at_19) rfl rfl (l' := #[.val (.int p0), .val (.int p1), .val (.int p2), .val (.int p3), .val (.int bd), .val (.int sel), .val (.ref b2), .unset, .unset, .unset, .unset, .unset]) rfl ?_
    show Steps p.tables e below (T14.setTop (mkF m 21 #[.val (.int p0), .val (.int p1), .val (.int p2), .val (.int p3), .val (.int bd), .val (.int sel), .val (.ref b2), .unset, .unset, .unset, .unset, .unset] [])) _
    refine XS.aload X14.here hx rfl (hb hby at_21) rfl rfl ?_
    show Steps p.tables e below (T14.setTop (mkF m 23 #[.val (.int p0), .val (.int p1), .val (.int p2), .val (.int p3), .val (.int bd), .val (.int sel), .val (.ref b2), .unset, .unset, .unset, .unset, .unset] [(.ref b2)])) _
    refine XS.iconst X14.here hx rfl (hb hby at_23) ?_
    show Steps p.tables e below (T14.setTop (mkF m 24 #[.val (.int p0), .val (.int p1), .val (.int p2), .val (.int p3), .val (.int bd), .val (.int sel), .val (.ref b2), .unset, .unset, .unset, .unset, .unset] [(.int (0 : Int32)), (.ref b2)])) _
    refine XS.iconst X14.here hx rfl (hb hby at_24) ?_
    show Steps p.tables e below (T14.setTop (mkF m 25 #[.val (.int p0), .val (.int p1), .val (.int p2), .val (.int p3), .val (.int bd), .val (.int sel), .val (.ref b2), .unset, .unset, .unset, .unset, .unset] [(.int (1 : Int32)), (.int (0 : Int32)), (.ref b2)])) _
    exact kt
  obtain ⟨_, _, ⟨T16, L16, k16, n16⟩, -, X16, ⟨Lc16, hQ16, l16, y16, z16⟩, st16⟩ := Jvm.LawKit.callS X14 hx (y := (⟨"com/example/lichen/lichen/analysis/RunsCountUpToPinLaw", "order", "([III)V"⟩ : MethodName)) hown (mvT hZ (hw _ (List.mem_of_getElem? (i := 1) rfl))) (mvT hZ (hw _ (List.mem_of_getElem? (i := 2) rfl))) (mvT hZ (hw _ (List.mem_of_getElem? (i := 3) rfl))) (mvT hZ (hw _ (List.mem_of_getElem? (i := 4) rfl))) (by decide) (backOf (W := 0) (rm1_01 l Z aa hw [] b2 k2 p0 p1 p2 p3 h14 n0 Z14 gn2 VL14) hZ (hw _ (List.mem_of_getElem? (i := 4) rfl)) (hw _ (List.mem_of_getElem? (i := 3) rfl)) (by decide) (by decide)) (g := (mkF m 25 #[.val (.int p0), .val (.int p1), .val (.int p2), .val (.int p3), .val (.int bd), .val (.int sel), .val (.ref b2), .unset, .unset, .unset, .unset, .unset] [(.int (1 : Int32)), (.int (0 : Int32)), (.ref b2)])) rfl (by rw [hml]; rfl) (argsL := [(.ref b2), (.int (0 : Int32)), (.int (1 : Int32))]) (rest := []) (lenOf pd_P_IIIQV rfl) rfl (by show 2 * 0 + _ ≤ _; exact Nat.le_of_eq rfl) (hb hby at_25) (fun _ _ => ⟨rfl, e14, (by decide : 1 + 0 ≤ _), (by decide : 4 + 0 ≤ _)⟩)
  dsimp only [Pt.U, Pt.locs, Pt.cells, Pt.slots] at X16 l16 y16 z16 st16 hQ16
  subst l16 y16 z16
  obtain ⟨rfl, N16q, KVx01, VVx01⟩ := hQ16
  have N16 := Fr.app N14 N16q
  have K16 : ∀ t, Steps p.tables e below (T16.setTop (mkF m 28 #[.val (.int p0), .val (.int p1), .val (.int p2), .val (.int p3), .val (.int bd), .val (.int sel), .val (.ref b2), .unset, .unset, .unset, .unset, .unset] [])) t → Steps p.tables e below G0 t := fun t kt => K15 t (st16 _ kt)
  have Z16 : n0 ≤ T16.heap.size := Nat.le_trans Z14 KVx01.1
  obtain ⟨s0, h_s0⟩ : ∃ z, z = own_lo p0 p1 := ⟨_, rfl⟩
  obtain ⟨s1, h_s1⟩ : ∃ z, z = own_hi p0 p1 := ⟨_, rfl⟩
  rw [← h_s0, ← h_s1] at VVx01
  have K17 : ∀ t, Steps p.tables e below (T16.setTop (mkF m 32 #[.val (.int p0), .val (.int p1), .val (.int p2), .val (.int p3), .val (.int bd), .val (.int sel), .val (.ref b2), .unset, .unset, .unset, .unset, .unset] [(.int (3 : Int32)), (.int (2 : Int32)), (.ref b2)])) t → Steps p.tables e below G0 t := by
    intro t kt
    refine K16 t ?_
    refine XS.aload X16.here hx rfl (hb hby at_28) rfl rfl ?_
    show Steps p.tables e below (T16.setTop (mkF m 30 #[.val (.int p0), .val (.int p1), .val (.int p2), .val (.int p3), .val (.int bd), .val (.int sel), .val (.ref b2), .unset, .unset, .unset, .unset, .unset] [(.ref b2)])) _
    refine XS.iconst X16.here hx rfl (hb hby at_30) ?_
    show Steps p.tables e below (T16.setTop (mkF m 31 #[.val (.int p0), .val (.int p1), .val (.int p2), .val (.int p3), .val (.int bd), .val (.int sel), .val (.ref b2), .unset, .unset, .unset, .unset, .unset] [(.int (2 : Int32)), (.ref b2)])) _
    refine XS.iconst X16.here hx rfl (hb hby at_31) ?_
    show Steps p.tables e below (T16.setTop (mkF m 32 #[.val (.int p0), .val (.int p1), .val (.int p2), .val (.int p3), .val (.int bd), .val (.int sel), .val (.ref b2), .unset, .unset, .unset, .unset, .unset] [(.int (3 : Int32)), (.int (2 : Int32)), (.ref b2)])) _
    exact kt
  obtain ⟨_, _, ⟨T18, L18, k18, n18⟩, -, X18, ⟨Lc18, hQ18, l18, y18, z18⟩, st18⟩ := Jvm.LawKit.callS X16 hx (y := (⟨"com/example/lichen/lichen/analysis/RunsCountUpToPinLaw", "order", "([III)V"⟩ : MethodName)) hown (mvT hZ (hw _ (List.mem_of_getElem? (i := 1) rfl))) (mvT hZ (hw _ (List.mem_of_getElem? (i := 2) rfl))) (mvT hZ (hw _ (List.mem_of_getElem? (i := 3) rfl))) (mvT hZ (hw _ (List.mem_of_getElem? (i := 4) rfl))) (by decide) (backOf (W := 0) (rm1_23 l Z aa hw [] b2 k2 s0 s1 p2 p3 T16.heap n0 Z16 gn2 VVx01) hZ (hw _ (List.mem_of_getElem? (i := 4) rfl)) (hw _ (List.mem_of_getElem? (i := 3) rfl)) (by decide) (by decide)) (g := (mkF m 32 #[.val (.int p0), .val (.int p1), .val (.int p2), .val (.int p3), .val (.int bd), .val (.int sel), .val (.ref b2), .unset, .unset, .unset, .unset, .unset] [(.int (3 : Int32)), (.int (2 : Int32)), (.ref b2)])) rfl (by rw [hml]; rfl) (argsL := [(.ref b2), (.int (2 : Int32)), (.int (3 : Int32))]) (rest := []) (lenOf pd_P_IIIQV rfl) rfl (by show 2 * 0 + _ ≤ _; exact Nat.le_of_eq rfl) (hb hby at_32) (fun _ _ => ⟨rfl, (rfl : T16.heap = _), (by decide : 1 + 0 ≤ _), (by decide : 4 + 0 ≤ _)⟩)
  dsimp only [Pt.U, Pt.locs, Pt.cells, Pt.slots] at X18 l18 y18 z18 st18 hQ18
  subst l18 y18 z18
  obtain ⟨rfl, N18q, KVx23, VVx23⟩ := hQ18
  have N18 := Fr.app N16 N18q
  have K18 : ∀ t, Steps p.tables e below (T18.setTop (mkF m 35 #[.val (.int p0), .val (.int p1), .val (.int p2), .val (.int p3), .val (.int bd), .val (.int sel), .val (.ref b2), .unset, .unset, .unset, .unset, .unset] [])) t → Steps p.tables e below G0 t := fun t kt => K17 t (st18 _ kt)
  have Z18 : n0 ≤ T18.heap.size := Nat.le_trans Z16 KVx23.1
  obtain ⟨s2, h_s2⟩ : ∃ z, z = own_lo p2 p3 := ⟨_, rfl⟩
  obtain ⟨s3, h_s3⟩ : ∃ z, z = own_hi p2 p3 := ⟨_, rfl⟩
  rw [← h_s2, ← h_s3] at VVx23
  have K19 : ∀ t, Steps p.tables e below (T18.setTop (mkF m 39 #[.val (.int p0), .val (.int p1), .val (.int p2), .val (.int p3), .val (.int bd), .val (.int sel), .val (.ref b2), .unset, .unset, .unset, .unset, .unset] [(.int (2 : Int32)), (.int (0 : Int32)), (.ref b2)])) t → Steps p.tables e below G0 t := by
    intro t kt
    refine K18 t ?_
    refine XS.aload X18.here hx rfl (hb hby at_35) rfl rfl ?_
    show Steps p.tables e below (T18.setTop (mkF m 37 #[.val (.int p0), .val (.int p1), .val (.int p2), .val (.int p3), .val (.int bd), .val (.int sel), .val (.ref b2), .unset, .unset, .unset, .unset, .unset] [(.ref b2)])) _
    refine XS.iconst X18.here hx rfl (hb hby at_37) ?_
    show Steps p.tables e below (T18.setTop (mkF m 38 #[.val (.int p0), .val (.int p1), .val (.int p2), .val (.int p3), .val (.int bd), .val (.int sel), .val (.ref b2), .unset, .unset, .unset, .unset, .unset] [(.int (0 : Int32)), (.ref b2)])) _
    refine XS.iconst X18.here hx rfl (hb hby at_38) ?_
    show Steps p.tables e below (T18.setTop (mkF m 39 #[.val (.int p0), .val (.int p1), .val (.int p2), .val (.int p3), .val (.int bd), .val (.int sel), .val (.ref b2), .unset, .unset, .unset, .unset, .unset] [(.int (2 : Int32)), (.int (0 : Int32)), (.ref b2)])) _
    exact kt
  obtain ⟨_, _, ⟨T20, L20, k20, n20⟩, -, X20, ⟨Lc20, hQ20, l20, y20, z20⟩, st20⟩ := Jvm.LawKit.callS X18 hx (y := (⟨"com/example/lichen/lichen/analysis/RunsCountUpToPinLaw", "order", "([III)V"⟩ : MethodName)) hown (mvT hZ (hw _ (List.mem_of_getElem? (i := 1) rfl))) (mvT hZ (hw _ (List.mem_of_getElem? (i := 2) rfl))) (mvT hZ (hw _ (List.mem_of_getElem? (i := 3) rfl))) (mvT hZ (hw _ (List.mem_of_getElem? (i := 4) rfl))) (by decide) (backOf (W := 0) (rm1_02 l Z aa hw [] b2 k2 s0 s1 s2 s3 T18.heap n0 Z18 gn2 VVx23) hZ (hw _ (List.mem_of_getElem? (i := 4) rfl)) (hw _ (List.mem_of_getElem? (i := 3) rfl)) (by decide) (by decide)) (g := (mkF m 39 #[.val (.int p0), .val (.int p1), .val (.int p2), .val (.int p3), .val (.int bd), .val (.int sel), .val (.ref b2), .unset, .unset, .unset, .unset, .unset] [(.int (2 : Int32)), (.int (0 : Int32)), (.ref b2)])) rfl (by rw [hml]; rfl) (argsL := [(.ref b2), (.int (0 : Int32)), (.int (2 : Int32))]) (rest := []) (lenOf pd_P_IIIQV rfl) rfl (by show 2 * 0 + _ ≤ _; exact Nat.le_of_eq rfl) (hb hby at_39) (fun _ _ => ⟨rfl, (rfl : T18.heap = _), (by decide : 1 + 0 ≤ _), (by decide : 4 + 0 ≤ _)⟩)
  dsimp only [Pt.U, Pt.locs, Pt.cells, Pt.slots] at X20 l20 y20 z20 st20 hQ20
  subst l20 y20 z20
  obtain ⟨rfl, N20q, KVx02, VVx02⟩ := hQ20
  have N20 := Fr.app N18 N20q
  have K20 : ∀ t, Steps p.tables e below (T20.setTop (mkF m 42 #[.val (.int p0), .val (.int p1), .val (.int p2), .val (.int p3), .val (.int bd), .val (.int sel), .val (.ref b2), .unset, .unset, .unset, .unset, .unset] [])) t → Steps p.tables e below G0 t := fun t kt => K19 t (st20 _ kt)
  have Z20 : n0 ≤ T20.heap.size := Nat.le_trans Z18 KVx02.1
  obtain ⟨t0, h_t0⟩ : ∃ z, z = own_lo s0 s2 := ⟨_, rfl⟩
  obtain ⟨t2, h_t2⟩ : ∃ z, z = own_hi s0 s2 := ⟨_, rfl⟩
  rw [← h_t0, ← h_t2] at VVx02
  have K21 : ∀ t, Steps p.tables e below (T20.setTop (mkF m 46 #[.val (.int p0), .val (.int p1), .val (.int p2), .val (.int p3), .val (.int bd), .val (.int sel), .val (.ref b2), .unset, .unset, .unset, .unset, .unset] [(.int (3 : Int32)), (.int (1 : Int32)), (.ref b2)])) t → Steps p.tables e below G0 t := by
    intro t kt
    refine K20 t ?_
    refine XS.aload X20.here hx rfl (hb hby at_42) rfl rfl ?_
    show Steps p.tables e below (T20.setTop (mkF m 44 #[.val (.int p0), .val (.int p1), .val (.int p2), .val (.int p3), .val (.int bd), .val (.int sel), .val (.ref b2), .unset, .unset, .unset, .unset, .unset] [(.ref b2)])) _
    refine XS.iconst X20.here hx rfl (hb hby at_44) ?_
    show Steps p.tables e below (T20.setTop (mkF m 45 #[.val (.int p0), .val (.int p1), .val (.int p2), .val (.int p3), .val (.int bd), .val (.int sel), .val (.ref b2), .unset, .unset, .unset, .unset, .unset] [(.int (1 : Int32)), (.ref b2)])) _
    refine XS.iconst X20.here hx rfl (hb hby at_45) ?_
    show Steps p.tables e below (T20.setTop (mkF m 46 #[.val (.int p0), .val (.int p1), .val (.int p2), .val (.int p3), .val (.int bd), .val (.int sel), .val (.ref b2), .unset, .unset, .unset, .unset, .unset] [(.int (3 : Int32)), (.int (1 : Int32)), (.ref b2)])) _
    exact kt
  obtain ⟨_, _, ⟨T22, L22, k22, n22⟩, -, X22, ⟨Lc22, hQ22, l22, y22, z22⟩, st22⟩ := Jvm.LawKit.callS X20 hx (y := (⟨"com/example/lichen/lichen/analysis/RunsCountUpToPinLaw", "order", "([III)V"⟩ : MethodName)) hown (mvT hZ (hw _ (List.mem_of_getElem? (i := 1) rfl))) (mvT hZ (hw _ (List.mem_of_getElem? (i := 2) rfl))) (mvT hZ (hw _ (List.mem_of_getElem? (i := 3) rfl))) (mvT hZ (hw _ (List.mem_of_getElem? (i := 4) rfl))) (by decide) (backOf (W := 0) (rm1_13 l Z aa hw [] b2 k2 t0 s1 t2 s3 T20.heap n0 Z20 gn2 VVx02) hZ (hw _ (List.mem_of_getElem? (i := 4) rfl)) (hw _ (List.mem_of_getElem? (i := 3) rfl)) (by decide) (by decide)) (g := (mkF m 46 #[.val (.int p0), .val (.int p1), .val (.int p2), .val (.int p3), .val (.int bd), .val (.int sel), .val (.ref b2), .unset, .unset, .unset, .unset, .unset] [(.int (3 : Int32)), (.int (1 : Int32)), (.ref b2)])) rfl (by rw [hml]; rfl) (argsL := [(.ref b2), (.int (1 : Int32)), (.int (3 : Int32))]) (rest := []) (lenOf pd_P_IIIQV rfl) rfl (by show 2 * 0 + _ ≤ _; exact Nat.le_of_eq rfl) (hb hby at_46) (fun _ _ => ⟨rfl, (rfl : T20.heap = _), (by decide : 1 + 0 ≤ _), (by decide : 4 + 0 ≤ _)⟩)
  dsimp only [Pt.U, Pt.locs, Pt.cells, Pt.slots] at X22 l22 y22 z22 st22 hQ22
  subst l22 y22 z22
  obtain ⟨rfl, N22q, KVx13, VVx13⟩ := hQ22
  have N22 := Fr.app N20 N22q
  have K22 : ∀ t, Steps p.tables e below (T22.setTop (mkF m 49 #[.val (.int p0), .val (.int p1), .val (.int p2), .val (.int p3), .val (.int bd), .val (.int sel), .val (.ref b2), .unset, .unset, .unset, .unset, .unset] [])) t → Steps p.tables e below G0 t := fun t kt => K21 t (st22 _ kt)
  have Z22 : n0 ≤ T22.heap.size := Nat.le_trans Z20 KVx13.1
  obtain ⟨t1, h_t1⟩ : ∃ z, z = own_lo s1 s3 := ⟨_, rfl⟩
  obtain ⟨t3, h_t3⟩ : ∃ z, z = own_hi s1 s3 := ⟨_, rfl⟩
  rw [← h_t1, ← h_t3] at VVx13
  have K23 : ∀ t, Steps p.tables e below (T22.setTop (mkF m 53 #[.val (.int p0), .val (.int p1), .val (.int p2), .val (.int p3), .val (.int bd), .val (.int sel), .val (.ref b2), .unset, .unset, .unset, .unset, .unset] [(.int (2 : Int32)), (.int (1 : Int32)), (.ref b2)])) t → Steps p.tables e below G0 t := by
    intro t kt
    refine K22 t ?_
    refine XS.aload X22.here hx rfl (hb hby at_49) rfl rfl ?_
    show Steps p.tables e below (T22.setTop (mkF m 51 #[.val (.int p0), .val (.int p1), .val (.int p2), .val (.int p3), .val (.int bd), .val (.int sel), .val (.ref b2), .unset, .unset, .unset, .unset, .unset] [(.ref b2)])) _
    refine XS.iconst X22.here hx rfl (hb hby at_51) ?_
    show Steps p.tables e below (T22.setTop (mkF m 52 #[.val (.int p0), .val (.int p1), .val (.int p2), .val (.int p3), .val (.int bd), .val (.int sel), .val (.ref b2), .unset, .unset, .unset, .unset, .unset] [(.int (1 : Int32)), (.ref b2)])) _
    refine XS.iconst X22.here hx rfl (hb hby at_52) ?_
    show Steps p.tables e below (T22.setTop (mkF m 53 #[.val (.int p0), .val (.int p1), .val (.int p2), .val (.int p3), .val (.int bd), .val (.int sel), .val (.ref b2), .unset, .unset, .unset, .unset, .unset] [(.int (2 : Int32)), (.int (1 : Int32)), (.ref b2)])) _
    exact kt
  obtain ⟨_, _, ⟨T24, L24, k24, n24⟩, -, X24, ⟨Lc24, hQ24, l24, y24, z24⟩, st24⟩ := Jvm.LawKit.callS X22 hx (y := (⟨"com/example/lichen/lichen/analysis/RunsCountUpToPinLaw", "order", "([III)V"⟩ : MethodName)) hown (mvT hZ (hw _ (List.mem_of_getElem? (i := 1) rfl))) (mvT hZ (hw _ (List.mem_of_getElem? (i := 2) rfl))) (mvT hZ (hw _ (List.mem_of_getElem? (i := 3) rfl))) (mvT hZ (hw _ (List.mem_of_getElem? (i := 4) rfl))) (by decide) (backOf (W := 0) (rm1_12 l Z aa hw [] b2 k2 t0 t1 t2 t3 T22.heap n0 Z22 gn2 VVx13) hZ (hw _ (List.mem_of_getElem? (i := 4) rfl)) (hw _ (List.mem_of_getElem? (i := 3) rfl)) (by decide) (by decide)) (g := (mkF m 53 #[.val (.int p0), .val (.int p1), .val (.int p2), .val (.int p3), .val (.int bd), .val (.int sel), .val (.ref b2), .unset, .unset, .unset, .unset, .unset] [(.int (2 : Int32)), (.int (1 : Int32)), (.ref b2)])) rfl (by rw [hml]; rfl) (argsL := [(.ref b2), (.int (1 : Int32)), (.int (2 : Int32))]) (rest := []) (lenOf pd_P_IIIQV rfl) rfl (by show 2 * 0 + _ ≤ _; exact Nat.le_of_eq rfl) (hb hby at_53) (fun _ _ => ⟨rfl, (rfl : T22.heap = _), (by decide : 1 + 0 ≤ _), (by decide : 4 + 0 ≤ _)⟩)
  dsimp only [Pt.U, Pt.locs, Pt.cells, Pt.slots] at X24 l24 y24 z24 st24 hQ24
  subst l24 y24 z24
  obtain ⟨rfl, N24q, KVx12, VVx12⟩ := hQ24
  have N24 := Fr.app N22 N24q
  have K24 : ∀ t, Steps p.tables e below (T24.setTop (mkF m 56 #[.val (.int p0), .val (.int p1), .val (.int p2), .val (.int p3), .val (.int bd), .val (.int sel), .val (.ref b2), .unset, .unset, .unset, .unset, .unset] [])) t → Steps p.tables e below G0 t := fun t kt => K23 t (st24 _ kt)
  have Z24 : n0 ≤ T24.heap.size := Nat.le_trans Z22 KVx12.1
  obtain ⟨u1, h_u1⟩ : ∃ z, z = own_lo t1 t2 := ⟨_, rfl⟩
  obtain ⟨u2, h_u2⟩ : ∃ z, z = own_hi t1 t2 := ⟨_, rfl⟩
  rw [← h_u1, ← h_u2] at VVx12
  have hsort := own_net h_s0 h_s1 h_s2 h_s3 h_t0 h_t2 h_t1 h_t3 h_u1 h_u2
  have K25 : ∀ t, Steps p.tables e below (T24.setTop (mkF m 65 #[.val (.int p0), .val (.int p1), .val (.int p2), .val (.int p3), .val (.int bd), .val (.int sel), .val (.ref b2), .val (.int ((sel &&& (2147483647 : Int32)) % (5 : Int32))), .unset, .unset, .unset, .unset] [])) t → Steps p.tables e below G0 t := by
    intro t kt
    refine K24 t ?_
    refine XS.iload X24.here hx rfl (hb hby at_56) rfl ?_
    show Steps p.tables e below (T24.setTop (mkF m 58 #[.val (.int p0), .val (.int p1), .val (.int p2), .val (.int p3), .val (.int bd), .val (.int sel), .val (.ref b2), .unset, .unset, .unset, .unset, .unset] [(.int sel)])) _
    refine X24.ldcInt hx hown (mvT hZ (hw _ (List.mem_of_getElem? (i := 5) rfl))) (g := (mkF m 58 #[.val (.int p0), .val (.int p1), .val (.int p2), .val (.int p3), .val (.int bd), .val (.int sel), .val (.ref b2), .unset, .unset, .unset, .unset, .unset] [(.int sel)])) rfl (hb hby at_58) _ ?_
    show Steps p.tables e below (T24.setTop (mkF m 60 #[.val (.int p0), .val (.int p1), .val (.int p2), .val (.int p3), .val (.int bd), .val (.int sel), .val (.ref b2), .unset, .unset, .unset, .unset, .unset] [(.int (2147483647 : Int32)), (.int sel)])) _
    refine XS.iand X24.here hx rfl (hb hby at_60) rfl ?_
    show Steps p.tables e below (T24.setTop (mkF m 61 #[.val (.int p0), .val (.int p1), .val (.int p2), .val (.int p3), .val (.int bd), .val (.int sel), .val (.ref b2), .unset, .unset, .unset, .unset, .unset] [(.int (sel &&& (2147483647 : Int32)))])) _
    refine XS.iconst X24.here hx rfl (hb hby at_61) ?_
    show Steps p.tables e below (T24.setTop (mkF m 62 #[.val (.int p0), .val (.int p1), .val (.int p2), .val (.int p3), .val (.int bd), .val (.int sel), .val (.ref b2), .unset, .unset, .unset, .unset, .unset] [(.int (5 : Int32)), (.int (sel &&& (2147483647 : Int32)))])) _
    refine iremM X24 hx rfl (hb hby at_62) rfl (by decide) ?_
    show Steps p.tables e below (T24.setTop (mkF m 63 #[.val (.int p0), .val (.int p1), .val (.int p2), .val (.int p3), .val (.int bd), .val (.int sel), .val (.ref b2), .unset, .unset, .unset, .unset, .unset] [(.int ((sel &&& (2147483647 : Int32)) % (5 : Int32)))])) _
    refine XS.istore X24.here hx rfl (hb hby at_63) rfl (l' := #[.val (.int p0), .val (.int p1), .val (.int p2), .val (.int p3), .val (.int bd), .val (.int sel), .val (.ref b2), .val (.int ((sel &&& (2147483647 : Int32)) % (5 : Int32))), .unset, .unset, .unset, .unset]) rfl ?_
    show Steps p.tables e below (T24.setTop (mkF m 65 #[.val (.int p0), .val (.int p1), .val (.int p2), .val (.int p3), .val (.int bd), .val (.int sel), .val (.ref b2), .val (.int ((sel &&& (2147483647 : Int32)) % (5 : Int32))), .unset, .unset, .unset, .unset] [])) _
    exact kt
  have hn := own_n sel
  obtain ⟨n, h_n⟩ : ∃ z, z = ((sel &&& (2147483647 : Int32)) % (5 : Int32)) := ⟨_, rfl⟩
  rw [← h_n] at K25
  simp only [← h_n] at hn
  have K26 : ∀ t, Steps p.tables e below (T24.setTop (mkF m 75 #[.val (.int p0), .val (.int p1), .val (.int p2), .val (.int p3), .val (.int bd), .val (.int sel), .val (.ref b2), .val (.int n), .val (.int (((sel.toUInt32 >>> ((8 : Int32) &&& 31).toUInt32).toInt32) &&& (7 : Int32))), .unset, .unset, .unset] [])) t → Steps p.tables e below G0 t := by
    intro t kt
    refine K25 t ?_
    refine XS.iload X24.here hx rfl (hb hby at_65) rfl ?_
    show Steps p.tables e below (T24.setTop (mkF m 67 #[.val (.int p0), .val (.int p1), .val (.int p2), .val (.int p3), .val (.int bd), .val (.int sel), .val (.ref b2), .val (.int n), .unset, .unset, .unset, .unset] [(.int sel)])) _
    refine XS.bipush X24.here hx rfl (hb hby at_67) ?_
    show Steps p.tables e below (T24.setTop (mkF m 69 #[.val (.int p0), .val (.int p1), .val (.int p2), .val (.int p3), .val (.int bd), .val (.int sel), .val (.ref b2), .val (.int n), .unset, .unset, .unset, .unset] [(.int (8 : Int32)), (.int sel)])) _
    refine XS.iushr X24.here hx rfl (hb hby at_69) rfl ?_
    show Steps p.tables e below (T24.setTop (mkF m 70 #[.val (.int p0), .val (.int p1), .val (.int p2), .val (.int p3), .val (.int bd), .val (.int sel), .val (.ref b2), .val (.int n), .unset, .unset, .unset, .unset] [(.int ((sel.toUInt32 >>> ((8 : Int32) &&& 31).toUInt32).toInt32))])) _
    refine XS.bipush X24.here hx rfl (hb hby at_70) ?_
    show Steps p.tables e below (T24.setTop (mkF m 72 #[.val (.int p0), .val (.int p1), .val (.int p2), .val (.int p3), .val (.int bd), .val (.int sel), .val (.ref b2), .val (.int n), .unset, .unset, .unset, .unset] [(.int (7 : Int32)), (.int ((sel.toUInt32 >>> ((8 : Int32) &&& 31).toUInt32).toInt32))])) _
    refine XS.iand X24.here hx rfl (hb hby at_72) rfl ?_
    show Steps p.tables e below (T24.setTop (mkF m 73 #[.val (.int p0), .val (.int p1), .val (.int p2), .val (.int p3), .val (.int bd), .val (.int sel), .val (.ref b2), .val (.int n), .unset, .unset, .unset, .unset] [(.int (((sel.toUInt32 >>> ((8 : Int32) &&& 31).toUInt32).toInt32) &&& (7 : Int32)))])) _
    refine XS.istore X24.here hx rfl (hb hby at_73) rfl (l' := #[.val (.int p0), .val (.int p1), .val (.int p2), .val (.int p3), .val (.int bd), .val (.int sel), .val (.ref b2), .val (.int n), .val (.int (((sel.toUInt32 >>> ((8 : Int32) &&& 31).toUInt32).toInt32) &&& (7 : Int32))), .unset, .unset, .unset]) rfl ?_
    show Steps p.tables e below (T24.setTop (mkF m 75 #[.val (.int p0), .val (.int p1), .val (.int p2), .val (.int p3), .val (.int bd), .val (.int sel), .val (.ref b2), .val (.int n), .val (.int (((sel.toUInt32 >>> ((8 : Int32) &&& 31).toUInt32).toInt32) &&& (7 : Int32))), .unset, .unset, .unset] [])) _
    exact kt
  obtain ⟨pk, h_pk⟩ : ∃ z, z = (((sel.toUInt32 >>> ((8 : Int32) &&& 31).toUInt32).toInt32) &&& (7 : Int32)) := ⟨_, rfl⟩
  rw [← h_pk] at K26
  have K27 : ∀ t, Steps p.tables e below (T24.setTop (mkF m 82 #[.val (.int p0), .val (.int p1), .val (.int p2), .val (.int p3), .val (.int bd), .val (.int sel), .val (.ref b2), .val (.int n), .val (.int pk), .val (.int bd), .unset, .unset] [(.int (4 : Int32)), (.int pk)])) t → Steps p.tables e below G0 t := by
    intro t kt
    refine K26 t ?_
    refine XS.iload X24.here hx rfl (hb hby at_75) rfl ?_
    show Steps p.tables e below (T24.setTop (mkF m 77 #[.val (.int p0), .val (.int p1), .val (.int p2), .val (.int p3), .val (.int bd), .val (.int sel), .val (.ref b2), .val (.int n), .val (.int pk), .unset, .unset, .unset] [(.int bd)])) _
    refine XS.istore X24.here hx rfl (hb hby at_77) rfl (l' := #[.val (.int p0), .val (.int p1), .val (.int p2), .val (.int p3), .val (.int bd), .val (.int sel), .val (.ref b2), .val (.int n), .val (.int pk), .val (.int bd), .unset, .unset]) rfl ?_
    show Steps p.tables e below (T24.setTop (mkF m 79 #[.val (.int p0), .val (.int p1), .val (.int p2), .val (.int p3), .val (.int bd), .val (.int sel), .val (.ref b2), .val (.int n), .val (.int pk), .val (.int bd), .unset, .unset] [])) _
    refine XS.iload X24.here hx rfl (hb hby at_79) rfl ?_
    show Steps p.tables e below (T24.setTop (mkF m 81 #[.val (.int p0), .val (.int p1), .val (.int p2), .val (.int p3), .val (.int bd), .val (.int sel), .val (.ref b2), .val (.int n), .val (.int pk), .val (.int bd), .unset, .unset] [(.int pk)])) _
    refine XS.iconst X24.here hx rfl (hb hby at_81) ?_
    show Steps p.tables e below (T24.setTop (mkF m 82 #[.val (.int p0), .val (.int p1), .val (.int p2), .val (.int p3), .val (.int bd), .val (.int sel), .val (.ref b2), .val (.int n), .val (.int pk), .val (.int bd), .unset, .unset] [(.int (4 : Int32)), (.int pk)])) _
    exact kt
  obtain ⟨q, K28⟩ : ∃ q : Int32, ∀ t, Steps p.tables e below (T24.setTop (mkF m 92 #[.val (.int p0), .val (.int p1), .val (.int p2), .val (.int p3), .val (.int bd), .val (.int sel), .val (.ref b2), .val (.int n), .val (.int pk), .val (.int q), .unset, .unset] [])) t → Steps p.tables e below G0 t := by
    by_cases hc29 : pk < (4 : Int32)
    ·
      have K30 : ∀ t, Steps p.tables e below (T24.setTop (mkF m 89 #[.val (.int p0), .val (.int p1), .val (.int p2), .val (.int p3), .val (.int bd), .val (.int sel), .val (.ref b2), .val (.int n), .val (.int pk), .val (.int bd), .unset, .unset] [(.int pk), (.ref b2)])) t → Steps p.tables e below G0 t := by
        intro t kt
        refine K27 t ?_
        refine XS.icmpNo X24.here hx rfl (hb hby at_82) rfl (tlt hc29).2.1 ?_
        show Steps p.tables e below (T24.setTop (mkF m 85 #[.val (.int p0), .val (.int p1), .val (.int p2), .val (.int p3), .val (.int bd), .val (.int sel), .val (.ref b2), .val (.int n), .val (.int pk), .val (.int bd), .unset, .unset] [])) _
        refine XS.aload X24.here hx rfl (hb hby at_85) rfl rfl ?_
        show Steps p.tables e below (T24.setTop (mkF m 87 #[.val (.int p0), .val (.int p1), .val (.int p2), .val (.int p3), .val (.int bd), .val (.int sel), .val (.ref b2), .val (.int n), .val (.int pk), .val (.int bd), .unset, .unset] [(.ref b2)])) _
        refine XS.iload X24.here hx rfl (hb hby at_87) rfl ?_
        show Steps p.tables e below (T24.setTop (mkF m 89 #[.val (.int p0), .val (.int p1), .val (.int p2), .val (.int p3), .val (.int bd), .val (.int sel), .val (.ref b2), .val (.int n), .val (.int pk), .val (.int bd), .unset, .unset] [(.int pk), (.ref b2)])) _
        exact kt
      rcases own_pk _ _ h_pk hc29 with hp | hp | hp | hp
      ·
        rw [hp] at K30
        obtain ⟨cl31, Ar31, qq31, S31, M31, H31, GG31⟩ := id VVx12
        have hin31 : ¬ ((0 : Int32) < 0 ∨ cl31.slots.size ≤ ((0 : Int32)).toNatClampNeg) := inb_of S31 ⟨by decide, by decide⟩
        have hat31 : cl31.slots[((0 : Int32)).toNatClampNeg]? = some (.int t0) := Has.at H31 hin31 rfl
        have K32 : ∀ t, Steps p.tables e below (T24.setTop (mkF m 92 #[.val (.int p0), .val (.int p1), .val (.int p2), .val (.int p3), .val (.int bd), .val (.int sel), .val (.ref b2), .val (.int n), .val (.int (0 : Int32)), .val (.int t0), .unset, .unset] [])) t → Steps p.tables e below G0 t := by
          intro t kt
          refine K30 t ?_
          refine X24.iaload hx (j := (0 : Int32)) (v := (.int t0)) (by rw [(rfl : T24.heap = _)]; exact (Ar31).1) (State.isArrayOf_alike hZ.alike (Ar31).2.1) (Ar31).2.2 hin31 hat31 (g := (mkF m 89 #[.val (.int p0), .val (.int p1), .val (.int p2), .val (.int p3), .val (.int bd), .val (.int sel), .val (.ref b2), .val (.int n), .val (.int (0 : Int32)), .val (.int bd), .unset, .unset] [(.int (0 : Int32)), (.ref b2)])) rfl rfl (hb hby at_89) _ ?_
          show Steps p.tables e below (T24.setTop (mkF m 90 #[.val (.int p0), .val (.int p1), .val (.int p2), .val (.int p3), .val (.int bd), .val (.int sel), .val (.ref b2), .val (.int n), .val (.int (0 : Int32)), .val (.int bd), .unset, .unset] [(.int t0)])) _
          refine XS.istore X24.here hx rfl (hb hby at_90) rfl (l' := #[.val (.int p0), .val (.int p1), .val (.int p2), .val (.int p3), .val (.int bd), .val (.int sel), .val (.ref b2), .val (.int n), .val (.int (0 : Int32)), .val (.int t0), .unset, .unset]) rfl ?_
          show Steps p.tables e below (T24.setTop (mkF m 92 #[.val (.int p0), .val (.int p1), .val (.int p2), .val (.int p3), .val (.int bd), .val (.int sel), .val (.ref b2), .val (.int n), .val (.int (0 : Int32)), .val (.int t0), .unset, .unset] [])) _
          exact kt
        exact ⟨_, fun t kt => K32 t (by rw [← hp]; exact kt)⟩
      ·
        rw [hp] at K30
        obtain ⟨cl33, Ar33, qq33, S33, M33, H33, GG33⟩ := id VVx12
        have hin33 : ¬ ((1 : Int32) < 0 ∨ cl33.slots.size ≤ ((1 : Int32)).toNatClampNeg) := inb_of S33 ⟨by decide, by decide⟩
        have hat33 : cl33.slots[((1 : Int32)).toNatClampNeg]? = some (.int u1) := Has.at H33 hin33 rfl
        have K34 : ∀ t, Steps p.tables e below (T24.setTop (mkF m 92 #[.val (.int p0), .val (.int p1), .val (.int p2), .val (.int p3), .val (.int bd), .val (.int sel), .val (.ref b2), .val (.int n), .val (.int (1 : Int32)), .val (.int u1), .unset, .unset] [])) t → Steps p.tables e below G0 t := by
          intro t kt
          refine K30 t ?_
          refine X24.iaload hx (j := (1 : Int32)) (v := (.int u1)) (by rw [(rfl : T24.heap = _)]; exact (Ar33).1) (State.isArrayOf_alike hZ.alike (Ar33).2.1) (Ar33).2.2 hin33 hat33 (g := (mkF m 89 #[.val (.int p0), .val (.int p1), .val (.int p2), .val (.int p3), .val (.int bd), .val (.int sel), .val (.ref b2), .val (.int n), .val (.int (1 : Int32)), .val (.int bd), .unset, .unset] [(.int (1 : Int32)), (.ref b2)])) rfl rfl (hb hby at_89) _ ?_
          show Steps p.tables e below (T24.setTop (mkF m 90 #[.val (.int p0), .val (.int p1), .val (.int p2), .val (.int p3), .val (.int bd), .val (.int sel), .val (.ref b2), .val (.int n), .val (.int (1 : Int32)), .val (.int bd), .unset, .unset] [(.int u1)])) _
          refine XS.istore X24.here hx rfl (hb hby at_90) rfl (l' := #[.val (.int p0), .val (.int p1), .val (.int p2), .val (.int p3), .val (.int bd), .val (.int sel), .val (.ref b2), .val (.int n), .val (.int (1 : Int32)), .val (.int u1), .unset, .unset]) rfl ?_
          show Steps p.tables e below (T24.setTop (mkF m 92 #[.val (.int p0), .val (.int p1), .val (.int p2), .val (.int p3), .val (.int bd), .val (.int sel), .val (.ref b2), .val (.int n), .val (.int (1 : Int32)), .val (.int u1), .unset, .unset] [])) _
          exact kt
        exact ⟨_, fun t kt => K34 t (by rw [← hp]; exact kt)⟩
      ·
        rw [hp] at K30
        obtain ⟨cl35, Ar35, qq35, S35, M35, H35, GG35⟩ := id VVx12
        have hin35 : ¬ ((2 : Int32) < 0 ∨ cl35.slots.size ≤ ((2 : Int32)).toNatClampNeg) := inb_of S35 ⟨by decide, by decide⟩
        have hat35 : cl35.slots[((2 : Int32)).toNatClampNeg]? = some (.int u2) := Has.at H35 hin35 rfl
        have K36 : ∀ t, Steps p.tables e below (T24.setTop (mkF m 92 #[.val (.int p0), .val (.int p1), .val (.int p2), .val (.int p3), .val (.int bd), .val (.int sel), .val (.ref b2), .val (.int n), .val (.int (2 : Int32)), .val (.int u2), .unset, .unset] [])) t → Steps p.tables e below G0 t := by
          intro t kt
          refine K30 t ?_
          refine X24.iaload hx (j := (2 : Int32)) (v := (.int u2)) (by rw [(rfl : T24.heap = _)]; exact (Ar35).1) (State.isArrayOf_alike hZ.alike (Ar35).2.1) (Ar35).2.2 hin35 hat35 (g := (mkF m 89 #[.val (.int p0), .val (.int p1), .val (.int p2), .val (.int p3), .val (.int bd), .val (.int sel), .val (.ref b2), .val (.int n), .val (.int (2 : Int32)), .val (.int bd), .unset, .unset] [(.int (2 : Int32)), (.ref b2)])) rfl rfl (hb hby at_89) _ ?_
          show Steps p.tables e below (T24.setTop (mkF m 90 #[.val (.int p0), .val (.int p1), .val (.int p2), .val (.int p3), .val (.int bd), .val (.int sel), .val (.ref b2), .val (.int n), .val (.int (2 : Int32)), .val (.int bd), .unset, .unset] [(.int u2)])) _
          refine XS.istore X24.here hx rfl (hb hby at_90) rfl (l' := #[.val (.int p0), .val (.int p1), .val (.int p2), .val (.int p3), .val (.int bd), .val (.int sel), .val (.ref b2), .val (.int n), .val (.int (2 : Int32)), .val (.int u2), .unset, .unset]) rfl ?_
          show Steps p.tables e below (T24.setTop (mkF m 92 #[.val (.int p0), .val (.int p1), .val (.int p2), .val (.int p3), .val (.int bd), .val (.int sel), .val (.ref b2), .val (.int n), .val (.int (2 : Int32)), .val (.int u2), .unset, .unset] [])) _
          exact kt
        exact ⟨_, fun t kt => K36 t (by rw [← hp]; exact kt)⟩
      ·
        rw [hp] at K30
        obtain ⟨cl37, Ar37, qq37, S37, M37, H37, GG37⟩ := id VVx12
        have hin37 : ¬ ((3 : Int32) < 0 ∨ cl37.slots.size ≤ ((3 : Int32)).toNatClampNeg) := inb_of S37 ⟨by decide, by decide⟩
        have hat37 : cl37.slots[((3 : Int32)).toNatClampNeg]? = some (.int t3) := Has.at H37 hin37 rfl
        have K38 : ∀ t, Steps p.tables e below (T24.setTop (mkF m 92 #[.val (.int p0), .val (.int p1), .val (.int p2), .val (.int p3), .val (.int bd), .val (.int sel), .val (.ref b2), .val (.int n), .val (.int (3 : Int32)), .val (.int t3), .unset, .unset] [])) t → Steps p.tables e below G0 t := by
          intro t kt
          refine K30 t ?_
          refine X24.iaload hx (j := (3 : Int32)) (v := (.int t3)) (by rw [(rfl : T24.heap = _)]; exact (Ar37).1) (State.isArrayOf_alike hZ.alike (Ar37).2.1) (Ar37).2.2 hin37 hat37 (g := (mkF m 89 #[.val (.int p0), .val (.int p1), .val (.int p2), .val (.int p3), .val (.int bd), .val (.int sel), .val (.ref b2), .val (.int n), .val (.int (3 : Int32)), .val (.int bd), .unset, .unset] [(.int (3 : Int32)), (.ref b2)])) rfl rfl (hb hby at_89) _ ?_
          show Steps p.tables e below (T24.setTop (mkF m 90 #[.val (.int p0), .val (.int p1), .val (.int p2), .val (.int p3), .val (.int bd), .val (.int sel), .val (.ref b2), .val (.int n), .val (.int (3 : Int32)), .val (.int bd), .unset, .unset] [(.int t3)])) _
          refine XS.istore X24.here hx rfl (hb hby at_90) rfl (l' := #[.val (.int p0), .val (.int p1), .val (.int p2), .val (.int p3), .val (.int bd), .val (.int sel), .val (.ref b2), .val (.int n), .val (.int (3 : Int32)), .val (.int t3), .unset, .unset]) rfl ?_
          show Steps p.tables e below (T24.setTop (mkF m 92 #[.val (.int p0), .val (.int p1), .val (.int p2), .val (.int p3), .val (.int bd), .val (.int sel), .val (.ref b2), .val (.int n), .val (.int (3 : Int32)), .val (.int t3), .unset, .unset] [])) _
          exact kt
        exact ⟨_, fun t kt => K38 t (by rw [← hp]; exact kt)⟩
    ·
      have K39 : ∀ t, Steps p.tables e below (T24.setTop (mkF m 92 #[.val (.int p0), .val (.int p1), .val (.int p2), .val (.int p3), .val (.int bd), .val (.int sel), .val (.ref b2), .val (.int n), .val (.int pk), .val (.int bd), .unset, .unset] [])) t → Steps p.tables e below G0 t := by
        intro t kt
        refine K27 t ?_
        refine XS.icmpYes X24.here hx rfl (pc0 := 82) (pc' := 92) rfl (hb hby at_82) rfl (flt hc29).2.1 (by decide) (by decide) ?_
        show Steps p.tables e below (T24.setTop (mkF m 92 #[.val (.int p0), .val (.int p1), .val (.int p2), .val (.int p3), .val (.int bd), .val (.int sel), .val (.ref b2), .val (.int n), .val (.int pk), .val (.int bd), .unset, .unset] [])) _
        exact kt
      exact ⟨_, K39⟩
  rcases hn with hn | hn | hn | hn | hn
  ·
    rw [hn] at K28
    have K40 : ∀ t, Steps p.tables e below (T24.setTop (mkF m 94 #[.val (.int p0), .val (.int p1), .val (.int p2), .val (.int p3), .val (.int bd), .val (.int sel), .val (.ref b2), .val (.int (0 : Int32)), .val (.int pk), .val (.int q), .unset, .unset] [(.int (0 : Int32))])) t → Steps p.tables e below G0 t := by
      intro t kt
      refine K28 t ?_
      refine XS.iload X24.here hx rfl (hb hby at_92) rfl ?_
      show Steps p.tables e below (T24.setTop (mkF m 94 #[.val (.int p0), .val (.int p1), .val (.int p2), .val (.int p3), .val (.int bd), .val (.int sel), .val (.ref b2), .val (.int (0 : Int32)), .val (.int pk), .val (.int q), .unset, .unset] [(.int (0 : Int32))])) _
      exact kt
    obtain ⟨T41, h41, k41, X41, e41, E41, A41, st41⟩ := newP X24 hx hZ (hw _ (List.mem_of_getElem? (i := 0) rfl)) (rfl : T24.heap = _) (g := (mkF m 94 #[.val (.int p0), .val (.int p1), .val (.int p2), .val (.int p3), .val (.int bd), .val (.int sel), .val (.ref b2), .val (.int (0 : Int32)), .val (.int pk), .val (.int q), .unset, .unset] [(.int (0 : Int32))])) rfl (hb hby at_94) rfl (by decide) (cap := 0) (by decide) (by decide) (by decide) (by decide)
    obtain ⟨b41, g41⟩ : ∃ z, z = T24.heap.size := ⟨_, rfl⟩
    rw [← g41] at A41 st41
    have V41 := Arv.new A41 (by decide)
    have gn41 : n0 ≤ b41 := Nat.le_trans Z24 (Nat.le_of_eq g41.symm)
    have Z41 : n0 ≤ h41.size := Nat.le_trans Z24 E41.1
    have K41 : ∀ t, Steps p.tables e below (T41.setTop (mkF m 96 #[.val (.int p0), .val (.int p1), .val (.int p2), .val (.int p3), .val (.int bd), .val (.int sel), .val (.ref b2), .val (.int (0 : Int32)), .val (.int pk), .val (.int q), .unset, .unset] [(.ref b41)])) t → Steps p.tables e below G0 t := fun t kt => K40 t (st41 _ kt)
    have ne_b2_b41 : b2 ≠ b41 := Nat.ne_of_lt (Nat.lt_of_lt_of_le (VVx12).lt (Nat.le_of_eq g41.symm))
    have VL41 : Arv Z h41 b41 k41 .int (0 : Int32) [] (.int (0 : Int32)) := V41
    have K42 : ∀ t, Steps p.tables e below (T41.setTop (mkF m 231 #[.val (.int p0), .val (.int p1), .val (.int p2), .val (.int p3), .val (.int bd), .val (.int sel), .val (.ref b2), .val (.int (0 : Int32)), .val (.int pk), .val (.int q), .val (.ref b41), .val (.int (0 : Int32))] [(.int q), (.ref b41)])) t → Steps p.tables e below G0 t := by
      intro t kt
      refine K41 t ?_
      refine XS.astore X41.here hx rfl (hb hby at_96) rfl rfl (l' := #[.val (.int p0), .val (.int p1), .val (.int p2), .val (.int p3), .val (.int bd), .val (.int sel), .val (.ref b2), .val (.int (0 : Int32)), .val (.int pk), .val (.int q), .val (.ref b41), .unset]) rfl ?_
      show Steps p.tables e below (T41.setTop (mkF m 98 #[.val (.int p0), .val (.int p1), .val (.int p2), .val (.int p3), .val (.int bd), .val (.int sel), .val (.ref b2), .val (.int (0 : Int32)), .val (.int pk), .val (.int q), .val (.ref b41), .unset] [])) _
      refine XS.iload X41.here hx rfl (hb hby at_98) rfl ?_
      show Steps p.tables e below (T41.setTop (mkF m 100 #[.val (.int p0), .val (.int p1), .val (.int p2), .val (.int p3), .val (.int bd), .val (.int sel), .val (.ref b2), .val (.int (0 : Int32)), .val (.int pk), .val (.int q), .val (.ref b41), .unset] [(.int (0 : Int32))])) _
      refine XS.ifYes X41.here hx rfl (pc0 := 100) (pc' := 111) rfl (hb hby at_100) rfl ((if0 _ _).trans (flt (by decide)).2.2.2) (by decide) (by decide) ?_
      show Steps p.tables e below (T41.setTop (mkF m 111 #[.val (.int p0), .val (.int p1), .val (.int p2), .val (.int p3), .val (.int bd), .val (.int sel), .val (.ref b2), .val (.int (0 : Int32)), .val (.int pk), .val (.int q), .val (.ref b41), .unset] [])) _
      refine XS.iload X41.here hx rfl (hb hby at_111) rfl ?_
      show Steps p.tables e below (T41.setTop (mkF m 113 #[.val (.int p0), .val (.int p1), .val (.int p2), .val (.int p3), .val (.int bd), .val (.int sel), .val (.ref b2), .val (.int (0 : Int32)), .val (.int pk), .val (.int q), .val (.ref b41), .unset] [(.int (0 : Int32))])) _
      refine XS.iconst X41.here hx rfl (hb hby at_113) ?_
      show Steps p.tables e below (T41.setTop (mkF m 114 #[.val (.int p0), .val (.int p1), .val (.int p2), .val (.int p3), .val (.int bd), .val (.int sel), .val (.ref b2), .val (.int (0 : Int32)), .val (.int pk), .val (.int q), .val (.ref b41), .unset] [(.int (1 : Int32)), (.int (0 : Int32))])) _
      refine XS.icmpYes X41.here hx rfl (pc0 := 114) (pc' := 125) rfl (hb hby at_114) rfl (flt (by decide)).2.2.2 (by decide) (by decide) ?_
      show Steps p.tables e below (T41.setTop (mkF m 125 #[.val (.int p0), .val (.int p1), .val (.int p2), .val (.int p3), .val (.int bd), .val (.int sel), .val (.ref b2), .val (.int (0 : Int32)), .val (.int pk), .val (.int q), .val (.ref b41), .unset] [])) _
      refine XS.iload X41.here hx rfl (hb hby at_125) rfl ?_
      show Steps p.tables e below (T41.setTop (mkF m 127 #[.val (.int p0), .val (.int p1), .val (.int p2), .val (.int p3), .val (.int bd), .val (.int sel), .val (.ref b2), .val (.int (0 : Int32)), .val (.int pk), .val (.int q), .val (.ref b41), .unset] [(.int (0 : Int32))])) _
      refine XS.iconst X41.here hx rfl (hb hby at_127) ?_
      show Steps p.tables e below (T41.setTop (mkF m 128 #[.val (.int p0), .val (.int p1), .val (.int p2), .val (.int p3), .val (.int bd), .val (.int sel), .val (.ref b2), .val (.int (0 : Int32)), .val (.int pk), .val (.int q), .val (.ref b41), .unset] [(.int (2 : Int32)), (.int (0 : Int32))])) _
      refine XS.icmpYes X41.here hx rfl (pc0 := 128) (pc' := 139) rfl (hb hby at_128) rfl (flt (by decide)).2.2.2 (by decide) (by decide) ?_
      show Steps p.tables e below (T41.setTop (mkF m 139 #[.val (.int p0), .val (.int p1), .val (.int p2), .val (.int p3), .val (.int bd), .val (.int sel), .val (.ref b2), .val (.int (0 : Int32)), .val (.int pk), .val (.int q), .val (.ref b41), .unset] [])) _
      refine XS.iload X41.here hx rfl (hb hby at_139) rfl ?_
      show Steps p.tables e below (T41.setTop (mkF m 141 #[.val (.int p0), .val (.int p1), .val (.int p2), .val (.int p3), .val (.int bd), .val (.int sel), .val (.ref b2), .val (.int (0 : Int32)), .val (.int pk), .val (.int q), .val (.ref b41), .unset] [(.int (0 : Int32))])) _
      refine XS.iconst X41.here hx rfl (hb hby at_141) ?_
      show Steps p.tables e below (T41.setTop (mkF m 142 #[.val (.int p0), .val (.int p1), .val (.int p2), .val (.int p3), .val (.int bd), .val (.int sel), .val (.ref b2), .val (.int (0 : Int32)), .val (.int pk), .val (.int q), .val (.ref b41), .unset] [(.int (3 : Int32)), (.int (0 : Int32))])) _
      refine XS.icmpYes X41.here hx rfl (pc0 := 142) (pc' := 153) rfl (hb hby at_142) rfl (flt (by decide)).2.2.2 (by decide) (by decide) ?_
      show Steps p.tables e below (T41.setTop (mkF m 153 #[.val (.int p0), .val (.int p1), .val (.int p2), .val (.int p3), .val (.int bd), .val (.int sel), .val (.ref b2), .val (.int (0 : Int32)), .val (.int pk), .val (.int q), .val (.ref b41), .unset] [])) _
      refine XS.iconst X41.here hx rfl (hb hby at_153) ?_
      show Steps p.tables e below (T41.setTop (mkF m 154 #[.val (.int p0), .val (.int p1), .val (.int p2), .val (.int p3), .val (.int bd), .val (.int sel), .val (.ref b2), .val (.int (0 : Int32)), .val (.int pk), .val (.int q), .val (.ref b41), .unset] [(.int (0 : Int32))])) _
      refine XS.istore X41.here hx rfl (hb hby at_154) rfl (l' := #[.val (.int p0), .val (.int p1), .val (.int p2), .val (.int p3), .val (.int bd), .val (.int sel), .val (.ref b2), .val (.int (0 : Int32)), .val (.int pk), .val (.int q), .val (.ref b41), .val (.int (0 : Int32))]) rfl ?_
      show Steps p.tables e below (T41.setTop (mkF m 156 #[.val (.int p0), .val (.int p1), .val (.int p2), .val (.int p3), .val (.int bd), .val (.int sel), .val (.ref b2), .val (.int (0 : Int32)), .val (.int pk), .val (.int q), .val (.ref b41), .val (.int (0 : Int32))] [])) _
      refine XS.iload X41.here hx rfl (hb hby at_156) rfl ?_
      show Steps p.tables e below (T41.setTop (mkF m 158 #[.val (.int p0), .val (.int p1), .val (.int p2), .val (.int p3), .val (.int bd), .val (.int sel), .val (.ref b2), .val (.int (0 : Int32)), .val (.int pk), .val (.int q), .val (.ref b41), .val (.int (0 : Int32))] [(.int (0 : Int32))])) _
      refine XS.ifYes X41.here hx rfl (pc0 := 158) (pc' := 173) rfl (hb hby at_158) rfl ((if0 _ _).trans (flt (by decide)).2.2.2) (by decide) (by decide) ?_
      show Steps p.tables e below (T41.setTop (mkF m 173 #[.val (.int p0), .val (.int p1), .val (.int p2), .val (.int p3), .val (.int bd), .val (.int sel), .val (.ref b2), .val (.int (0 : Int32)), .val (.int pk), .val (.int q), .val (.ref b41), .val (.int (0 : Int32))] [])) _
      refine XS.iload X41.here hx rfl (hb hby at_173) rfl ?_
      show Steps p.tables e below (T41.setTop (mkF m 175 #[.val (.int p0), .val (.int p1), .val (.int p2), .val (.int p3), .val (.int bd), .val (.int sel), .val (.ref b2), .val (.int (0 : Int32)), .val (.int pk), .val (.int q), .val (.ref b41), .val (.int (0 : Int32))] [(.int (0 : Int32))])) _
      refine XS.iconst X41.here hx rfl (hb hby at_175) ?_
      show Steps p.tables e below (T41.setTop (mkF m 176 #[.val (.int p0), .val (.int p1), .val (.int p2), .val (.int p3), .val (.int bd), .val (.int sel), .val (.ref b2), .val (.int (0 : Int32)), .val (.int pk), .val (.int q), .val (.ref b41), .val (.int (0 : Int32))] [(.int (1 : Int32)), (.int (0 : Int32))])) _
      refine XS.icmpYes X41.here hx rfl (pc0 := 176) (pc' := 191) rfl (hb hby at_176) rfl (flt (by decide)).2.2.2 (by decide) (by decide) ?_
      show Steps p.tables e below (T41.setTop (mkF m 191 #[.val (.int p0), .val (.int p1), .val (.int p2), .val (.int p3), .val (.int bd), .val (.int sel), .val (.ref b2), .val (.int (0 : Int32)), .val (.int pk), .val (.int q), .val (.ref b41), .val (.int (0 : Int32))] [])) _
      refine XS.iload X41.here hx rfl (hb hby at_191) rfl ?_
      show Steps p.tables e below (T41.setTop (mkF m 193 #[.val (.int p0), .val (.int p1), .val (.int p2), .val (.int p3), .val (.int bd), .val (.int sel), .val (.ref b2), .val (.int (0 : Int32)), .val (.int pk), .val (.int q), .val (.ref b41), .val (.int (0 : Int32))] [(.int (0 : Int32))])) _
      refine XS.iconst X41.here hx rfl (hb hby at_193) ?_
      show Steps p.tables e below (T41.setTop (mkF m 194 #[.val (.int p0), .val (.int p1), .val (.int p2), .val (.int p3), .val (.int bd), .val (.int sel), .val (.ref b2), .val (.int (0 : Int32)), .val (.int pk), .val (.int q), .val (.ref b41), .val (.int (0 : Int32))] [(.int (2 : Int32)), (.int (0 : Int32))])) _
      refine XS.icmpYes X41.here hx rfl (pc0 := 194) (pc' := 209) rfl (hb hby at_194) rfl (flt (by decide)).2.2.2 (by decide) (by decide) ?_
      show Steps p.tables e below (T41.setTop (mkF m 209 #[.val (.int p0), .val (.int p1), .val (.int p2), .val (.int p3), .val (.int bd), .val (.int sel), .val (.ref b2), .val (.int (0 : Int32)), .val (.int pk), .val (.int q), .val (.ref b41), .val (.int (0 : Int32))] [])) _
      refine XS.iload X41.here hx rfl (hb hby at_209) rfl ?_
      show Steps p.tables e below (T41.setTop (mkF m 211 #[.val (.int p0), .val (.int p1), .val (.int p2), .val (.int p3), .val (.int bd), .val (.int sel), .val (.ref b2), .val (.int (0 : Int32)), .val (.int pk), .val (.int q), .val (.ref b41), .val (.int (0 : Int32))] [(.int (0 : Int32))])) _
      refine XS.iconst X41.here hx rfl (hb hby at_211) ?_
      show Steps p.tables e below (T41.setTop (mkF m 212 #[.val (.int p0), .val (.int p1), .val (.int p2), .val (.int p3), .val (.int bd), .val (.int sel), .val (.ref b2), .val (.int (0 : Int32)), .val (.int pk), .val (.int q), .val (.ref b41), .val (.int (0 : Int32))] [(.int (3 : Int32)), (.int (0 : Int32))])) _
      refine XS.icmpYes X41.here hx rfl (pc0 := 212) (pc' := 227) rfl (hb hby at_212) rfl (flt (by decide)).2.2.2 (by decide) (by decide) ?_
      show Steps p.tables e below (T41.setTop (mkF m 227 #[.val (.int p0), .val (.int p1), .val (.int p2), .val (.int p3), .val (.int bd), .val (.int sel), .val (.ref b2), .val (.int (0 : Int32)), .val (.int pk), .val (.int q), .val (.ref b41), .val (.int (0 : Int32))] [])) _
      refine XS.aload X41.here hx rfl (hb hby at_227) rfl rfl ?_
      show Steps p.tables e below (T41.setTop (mkF m 229 #[.val (.int p0), .val (.int p1), .val (.int p2), .val (.int p3), .val (.int bd), .val (.int sel), .val (.ref b2), .val (.int (0 : Int32)), .val (.int pk), .val (.int q), .val (.ref b41), .val (.int (0 : Int32))] [(.ref b41)])) _
      refine XS.iload X41.here hx rfl (hb hby at_229) rfl ?_
      show Steps p.tables e below (T41.setTop (mkF m 231 #[.val (.int p0), .val (.int p1), .val (.int p2), .val (.int p3), .val (.int bd), .val (.int sel), .val (.ref b2), .val (.int (0 : Int32)), .val (.int pk), .val (.int q), .val (.ref b41), .val (.int (0 : Int32))] [(.int q), (.ref b41)])) _
      exact kt
    obtain ⟨_, _, ⟨T43, L43, k43, n43⟩, -, X43, ⟨Lc43, hQ43, l43, y43, z43⟩, st43⟩ := Jvm.LawKit.callS X41 hx (y := (⟨"com/example/lichen/lichen/analysis/Runs", "countUpTo", "([II)I"⟩ : MethodName)) hown (mvT hZ (hw _ (List.mem_of_getElem? (i := 6) rfl))) (mvT hZ (hw _ (List.mem_of_getElem? (i := 7) rfl))) (mvT hZ (hw _ (List.mem_of_getElem? (i := 8) rfl))) (mvT hZ (hw _ (List.mem_of_getElem? (i := 9) rfl))) (by decide) (backOf (W := 0) (rm2_0 l Z aa hw [] (b41) (q) _  h41 n0 Z41 VL41 ) hZ (hw _ (List.mem_of_getElem? (i := 9) rfl)) (hw _ (List.mem_of_getElem? (i := 8) rfl)) (by decide) (by decide)) (g := (mkF m 231 #[.val (.int p0), .val (.int p1), .val (.int p2), .val (.int p3), .val (.int bd), .val (.int sel), .val (.ref b2), .val (.int (0 : Int32)), .val (.int pk), .val (.int q), .val (.ref b41), .val (.int (0 : Int32))] [(.int q), (.ref b41)])) rfl (by rw [hml]; rfl) (argsL := [(.ref b41), (.int q)]) (rest := []) (lenOf pd_P_IIQI rfl) rfl (by show 2 * 0 + _ ≤ _; exact Nat.le_of_eq rfl) (hb hby at_231) (fun _ _ => ⟨rfl, e41, (by decide : 2 + 0 ≤ _), (by decide : 4 + 0 ≤ _)⟩)
    dsimp only [Pt.U, Pt.locs, Pt.cells, Pt.slots] at X43 l43 y43 z43 st43 hQ43
    subst l43 y43 z43
    obtain ⟨rfl, N43q, e43⟩ := hQ43
    have N43 := Fr.app N24 N43q
    have K43 : ∀ t, Steps p.tables e below (T43.setTop (mkF m 234 #[.val (.int p0), .val (.int p1), .val (.int p2), .val (.int p3), .val (.int bd), .val (.int sel), .val (.ref b2), .val (.int (0 : Int32)), .val (.int pk), .val (.int q), .val (.ref b41), .val (.int (0 : Int32))] [(.int (0 : Int32))])) t → Steps p.tables e below G0 t := fun t kt => K42 t (st43 _ kt)
    have K44 : ∀ t, Steps p.tables e below (T43.setTop (mkF m 244 #[.val (.int p0), .val (.int p1), .val (.int p2), .val (.int p3), .val (.int bd), .val (.int sel), .val (.ref b2), .val (.int (0 : Int32)), .val (.int pk), .val (.int q), .val (.ref b41), .val (.int (0 : Int32))] [(.int (1 : Int32))])) t → Steps p.tables e below G0 t := by
      intro t kt
      refine K43 t ?_
      refine XS.iload X43.here hx rfl (hb hby at_234) rfl ?_
      show Steps p.tables e below (T43.setTop (mkF m 236 #[.val (.int p0), .val (.int p1), .val (.int p2), .val (.int p3), .val (.int bd), .val (.int sel), .val (.ref b2), .val (.int (0 : Int32)), .val (.int pk), .val (.int q), .val (.ref b41), .val (.int (0 : Int32))] [(.int (0 : Int32)), (.int (0 : Int32))])) _
      refine XS.icmpNo X43.here hx rfl (hb hby at_236) rfl (teq rfl).2 ?_
      show Steps p.tables e below (T43.setTop (mkF m 239 #[.val (.int p0), .val (.int p1), .val (.int p2), .val (.int p3), .val (.int bd), .val (.int sel), .val (.ref b2), .val (.int (0 : Int32)), .val (.int pk), .val (.int q), .val (.ref b41), .val (.int (0 : Int32))] [])) _
      refine XS.iconst X43.here hx rfl (hb hby at_239) ?_
      show Steps p.tables e below (T43.setTop (mkF m 240 #[.val (.int p0), .val (.int p1), .val (.int p2), .val (.int p3), .val (.int bd), .val (.int sel), .val (.ref b2), .val (.int (0 : Int32)), .val (.int pk), .val (.int q), .val (.ref b41), .val (.int (0 : Int32))] [(.int (1 : Int32))])) _
      refine XS.goto X43.here hx rfl (pc0 := 240) (pc' := 244) rfl (hb hby at_240) (by decide) (by decide) ?_
      show Steps p.tables e below (T43.setTop (mkF m 244 #[.val (.int p0), .val (.int p1), .val (.int p2), .val (.int p3), .val (.int bd), .val (.int sel), .val (.ref b2), .val (.int (0 : Int32)), .val (.int pk), .val (.int q), .val (.ref b41), .val (.int (0 : Int32))] [(.int (1 : Int32))])) _
      exact kt
    obtain ⟨fs, hr, hrun, hended, hW, hsame⟩ := X43.leave (v := some (.int (1 : Int32))) (fun h => by rw [Bd.returns] at h; cases h)
    refine ⟨_, _, ?_, hrun, hended, _, _, rfl, ?_, ⟨_, rfl⟩, hW, hsame.mono (by decide) (by decide)⟩
    · rw [← hG0]
      refine K44 _ ?_
      exact retN X43 hx (t := .boolean) Bd.returns (by simp) (hb hby at_244) hr
    · show Q0 Z p0 p1 p2 p3 bd sel h0 n0 _ T43.heap _
      rw [e43]
      exact ⟨rfl, N43⟩
  ·
    rw [hn] at K28
    have K45 : ∀ t, Steps p.tables e below (T24.setTop (mkF m 94 #[.val (.int p0), .val (.int p1), .val (.int p2), .val (.int p3), .val (.int bd), .val (.int sel), .val (.ref b2), .val (.int (1 : Int32)), .val (.int pk), .val (.int q), .unset, .unset] [(.int (1 : Int32))])) t → Steps p.tables e below G0 t := by
      intro t kt
      refine K28 t ?_
      refine XS.iload X24.here hx rfl (hb hby at_92) rfl ?_
      show Steps p.tables e below (T24.setTop (mkF m 94 #[.val (.int p0), .val (.int p1), .val (.int p2), .val (.int p3), .val (.int bd), .val (.int sel), .val (.ref b2), .val (.int (1 : Int32)), .val (.int pk), .val (.int q), .unset, .unset] [(.int (1 : Int32))])) _
      exact kt
    obtain ⟨T46, h46, k46, X46, e46, E46, A46, st46⟩ := newP X24 hx hZ (hw _ (List.mem_of_getElem? (i := 0) rfl)) (rfl : T24.heap = _) (g := (mkF m 94 #[.val (.int p0), .val (.int p1), .val (.int p2), .val (.int p3), .val (.int bd), .val (.int sel), .val (.ref b2), .val (.int (1 : Int32)), .val (.int pk), .val (.int q), .unset, .unset] [(.int (1 : Int32))])) rfl (hb hby at_94) rfl (by decide) (cap := 1) (by decide) (by decide) (by decide) (by decide)
    obtain ⟨b46, g46⟩ : ∃ z, z = T24.heap.size := ⟨_, rfl⟩
    rw [← g46] at A46 st46
    have V46 := Arv.new A46 (by decide)
    have gn46 : n0 ≤ b46 := Nat.le_trans Z24 (Nat.le_of_eq g46.symm)
    have Z46 : n0 ≤ h46.size := Nat.le_trans Z24 E46.1
    have K46 : ∀ t, Steps p.tables e below (T46.setTop (mkF m 96 #[.val (.int p0), .val (.int p1), .val (.int p2), .val (.int p3), .val (.int bd), .val (.int sel), .val (.ref b2), .val (.int (1 : Int32)), .val (.int pk), .val (.int q), .unset, .unset] [(.ref b46)])) t → Steps p.tables e below G0 t := fun t kt => K45 t (st46 _ kt)
    have ne_b2_b46 : b2 ≠ b46 := Nat.ne_of_lt (Nat.lt_of_lt_of_le (VVx12).lt (Nat.le_of_eq g46.symm))
    have VL46 : Arv Z h46 b46 k46 .int (1 : Int32) [(.int (0 : Int32))] (.int (0 : Int32)) := V46.pad (pad_rep [] (.int (0 : Int32)) 1)
    have K47 : ∀ t, Steps p.tables e below (T46.setTop (mkF m 109 #[.val (.int p0), .val (.int p1), .val (.int p2), .val (.int p3), .val (.int bd), .val (.int sel), .val (.ref b2), .val (.int (1 : Int32)), .val (.int pk), .val (.int q), .val (.ref b46), .unset] [(.int (0 : Int32)), (.ref b2), (.int (0 : Int32)), (.ref b46)])) t → Steps p.tables e below G0 t := by
      intro t kt
      refine K46 t ?_
      refine XS.astore X46.here hx rfl (hb hby at_96) rfl rfl (l' := #[.val (.int p0), .val (.int p1), .val (.int p2), .val (.int p3), .val (.int bd), .val (.int sel), .val (.ref b2), .val (.int (1 : Int32)), .val (.int pk), .val (.int q), .val (.ref b46), .unset]) rfl ?_
      show Steps p.tables e below (T46.setTop (mkF m 98 #[.val (.int p0), .val (.int p1), .val (.int p2), .val (.int p3), .val (.int bd), .val (.int sel), .val (.ref b2), .val (.int (1 : Int32)), .val (.int pk), .val (.int q), .val (.ref b46), .unset] [])) _
      refine XS.iload X46.here hx rfl (hb hby at_98) rfl ?_
      show Steps p.tables e below (T46.setTop (mkF m 100 #[.val (.int p0), .val (.int p1), .val (.int p2), .val (.int p3), .val (.int bd), .val (.int sel), .val (.ref b2), .val (.int (1 : Int32)), .val (.int pk), .val (.int q), .val (.ref b46), .unset] [(.int (1 : Int32))])) _
      refine XS.ifNo X46.here hx rfl (hb hby at_100) rfl ((if0 _ _).trans (tlt (by decide)).2.2.2) ?_
      show Steps p.tables e below (T46.setTop (mkF m 103 #[.val (.int p0), .val (.int p1), .val (.int p2), .val (.int p3), .val (.int bd), .val (.int sel), .val (.ref b2), .val (.int (1 : Int32)), .val (.int pk), .val (.int q), .val (.ref b46), .unset] [])) _
      refine XS.aload X46.here hx rfl (hb hby at_103) rfl rfl ?_
      show Steps p.tables e below (T46.setTop (mkF m 105 #[.val (.int p0), .val (.int p1), .val (.int p2), .val (.int p3), .val (.int bd), .val (.int sel), .val (.ref b2), .val (.int (1 : Int32)), .val (.int pk), .val (.int q), .val (.ref b46), .unset] [(.ref b46)])) _
      refine XS.iconst X46.here hx rfl (hb hby at_105) ?_
      show Steps p.tables e below (T46.setTop (mkF m 106 #[.val (.int p0), .val (.int p1), .val (.int p2), .val (.int p3), .val (.int bd), .val (.int sel), .val (.ref b2), .val (.int (1 : Int32)), .val (.int pk), .val (.int q), .val (.ref b46), .unset] [(.int (0 : Int32)), (.ref b46)])) _
      refine XS.aload X46.here hx rfl (hb hby at_106) rfl rfl ?_
      show Steps p.tables e below (T46.setTop (mkF m 108 #[.val (.int p0), .val (.int p1), .val (.int p2), .val (.int p3), .val (.int bd), .val (.int sel), .val (.ref b2), .val (.int (1 : Int32)), .val (.int pk), .val (.int q), .val (.ref b46), .unset] [(.ref b2), (.int (0 : Int32)), (.ref b46)])) _
      refine XS.iconst X46.here hx rfl (hb hby at_108) ?_
      show Steps p.tables e below (T46.setTop (mkF m 109 #[.val (.int p0), .val (.int p1), .val (.int p2), .val (.int p3), .val (.int bd), .val (.int sel), .val (.ref b2), .val (.int (1 : Int32)), .val (.int pk), .val (.int q), .val (.ref b46), .unset] [(.int (0 : Int32)), (.ref b2), (.int (0 : Int32)), (.ref b46)])) _
      exact kt
    have f48 := (VVx12.ext E46)
    obtain ⟨cl49, Ar49, qq49, S49, M49, H49, GG49⟩ := id f48
    have hin49 : ¬ ((0 : Int32) < 0 ∨ cl49.slots.size ≤ ((0 : Int32)).toNatClampNeg) := inb_of S49 ⟨by decide, by decide⟩
    have hat49 : cl49.slots[((0 : Int32)).toNatClampNeg]? = some (.int t0) := Has.at H49 hin49 rfl
    have K50 : ∀ t, Steps p.tables e below (T46.setTop (mkF m 110 #[.val (.int p0), .val (.int p1), .val (.int p2), .val (.int p3), .val (.int bd), .val (.int sel), .val (.ref b2), .val (.int (1 : Int32)), .val (.int pk), .val (.int q), .val (.ref b46), .unset] [(.int t0), (.int (0 : Int32)), (.ref b46)])) t → Steps p.tables e below G0 t := by
      intro t kt
      refine K47 t ?_
      refine X46.iaload hx (j := (0 : Int32)) (v := (.int t0)) (by rw [e46]; exact (Ar49).1) (State.isArrayOf_alike hZ.alike (Ar49).2.1) (Ar49).2.2 hin49 hat49 (g := (mkF m 109 #[.val (.int p0), .val (.int p1), .val (.int p2), .val (.int p3), .val (.int bd), .val (.int sel), .val (.ref b2), .val (.int (1 : Int32)), .val (.int pk), .val (.int q), .val (.ref b46), .unset] [(.int (0 : Int32)), (.ref b2), (.int (0 : Int32)), (.ref b46)])) rfl rfl (hb hby at_109) _ ?_
      show Steps p.tables e below (T46.setTop (mkF m 110 #[.val (.int p0), .val (.int p1), .val (.int p2), .val (.int p3), .val (.int bd), .val (.int sel), .val (.ref b2), .val (.int (1 : Int32)), .val (.int pk), .val (.int q), .val (.ref b46), .unset] [(.int t0), (.int (0 : Int32)), (.ref b46)])) _
      exact kt
    obtain ⟨cl51, Ar51, qq51, S51, M51, H51, GG51⟩ := id VL46
    have hin51 : ¬ ((0 : Int32) < 0 ∨ cl51.slots.size ≤ ((0 : Int32)).toNatClampNeg) := inb_of S51 ⟨by decide, by decide⟩
    obtain ⟨T52, h52, X52, e52, W52, st52⟩ := stI X46 hx hZ e46 Ar51 (j := (0 : Int32)) hin51 (g := (mkF m 110 #[.val (.int p0), .val (.int p1), .val (.int p2), .val (.int p3), .val (.int bd), .val (.int sel), .val (.ref b2), .val (.int (1 : Int32)), .val (.int pk), .val (.int q), .val (.ref b46), .unset] [(.int t0), (.int (0 : Int32)), (.ref b46)])) rfl rfl (hb hby at_110)
    have K52 : ∀ t, Steps p.tables e below (T52.setTop (mkF m 111 #[.val (.int p0), .val (.int p1), .val (.int p2), .val (.int p3), .val (.int bd), .val (.int sel), .val (.ref b2), .val (.int (1 : Int32)), .val (.int pk), .val (.int q), .val (.ref b46), .unset] [])) t → Steps p.tables e below G0 t := fun t kt => K50 t (st52 _ kt)
    have Z52 : n0 ≤ h52.size := Nat.le_trans Z46 (Keep.of_wr W52).1
    have VL52 : Arv Z h52 b46 k46 .int (1 : Int32) [(.int t0)] (.int (0 : Int32)) := Arv.set Ar51 qq51 S51 M51 H51 GG51 rfl W52 0 rfl (Nat.le_of_ble_eq_true rfl)
    have N52 := Fr.snoc X52 N24 gn46
    have K53 : ∀ t, Steps p.tables e below (T52.setTop (mkF m 164 #[.val (.int p0), .val (.int p1), .val (.int p2), .val (.int p3), .val (.int bd), .val (.int sel), .val (.ref b2), .val (.int (1 : Int32)), .val (.int pk), .val (.int q), .val (.ref b46), .val (.int (0 : Int32))] [(.int (0 : Int32)), (.ref b2)])) t → Steps p.tables e below G0 t := by
      intro t kt
      refine K52 t ?_
      refine XS.iload X52.here hx rfl (hb hby at_111) rfl ?_
      show Steps p.tables e below (T52.setTop (mkF m 113 #[.val (.int p0), .val (.int p1), .val (.int p2), .val (.int p3), .val (.int bd), .val (.int sel), .val (.ref b2), .val (.int (1 : Int32)), .val (.int pk), .val (.int q), .val (.ref b46), .unset] [(.int (1 : Int32))])) _
      refine XS.iconst X52.here hx rfl (hb hby at_113) ?_
      show Steps p.tables e below (T52.setTop (mkF m 114 #[.val (.int p0), .val (.int p1), .val (.int p2), .val (.int p3), .val (.int bd), .val (.int sel), .val (.ref b2), .val (.int (1 : Int32)), .val (.int pk), .val (.int q), .val (.ref b46), .unset] [(.int (1 : Int32)), (.int (1 : Int32))])) _
      refine XS.icmpYes X52.here hx rfl (pc0 := 114) (pc' := 125) rfl (hb hby at_114) rfl (flt (by decide)).2.2.2 (by decide) (by decide) ?_
      show Steps p.tables e below (T52.setTop (mkF m 125 #[.val (.int p0), .val (.int p1), .val (.int p2), .val (.int p3), .val (.int bd), .val (.int sel), .val (.ref b2), .val (.int (1 : Int32)), .val (.int pk), .val (.int q), .val (.ref b46), .unset] [])) _
      refine XS.iload X52.here hx rfl (hb hby at_125) rfl ?_
      show Steps p.tables e below (T52.setTop (mkF m 127 #[.val (.int p0), .val (.int p1), .val (.int p2), .val (.int p3), .val (.int bd), .val (.int sel), .val (.ref b2), .val (.int (1 : Int32)), .val (.int pk), .val (.int q), .val (.ref b46), .unset] [(.int (1 : Int32))])) _
      refine XS.iconst X52.here hx rfl (hb hby at_127) ?_
      show Steps p.tables e below (T52.setTop (mkF m 128 #[.val (.int p0), .val (.int p1), .val (.int p2), .val (.int p3), .val (.int bd), .val (.int sel), .val (.ref b2), .val (.int (1 : Int32)), .val (.int pk), .val (.int q), .val (.ref b46), .unset] [(.int (2 : Int32)), (.int (1 : Int32))])) _
      refine XS.icmpYes X52.here hx rfl (pc0 := 128) (pc' := 139) rfl (hb hby at_128) rfl (flt (by decide)).2.2.2 (by decide) (by decide) ?_
      show Steps p.tables e below (T52.setTop (mkF m 139 #[.val (.int p0), .val (.int p1), .val (.int p2), .val (.int p3), .val (.int bd), .val (.int sel), .val (.ref b2), .val (.int (1 : Int32)), .val (.int pk), .val (.int q), .val (.ref b46), .unset] [])) _
      refine XS.iload X52.here hx rfl (hb hby at_139) rfl ?_
      show Steps p.tables e below (T52.setTop (mkF m 141 #[.val (.int p0), .val (.int p1), .val (.int p2), .val (.int p3), .val (.int bd), .val (.int sel), .val (.ref b2), .val (.int (1 : Int32)), .val (.int pk), .val (.int q), .val (.ref b46), .unset] [(.int (1 : Int32))])) _
      refine XS.iconst X52.here hx rfl (hb hby at_141) ?_
      show Steps p.tables e below (T52.setTop (mkF m 142 #[.val (.int p0), .val (.int p1), .val (.int p2), .val (.int p3), .val (.int bd), .val (.int sel), .val (.ref b2), .val (.int (1 : Int32)), .val (.int pk), .val (.int q), .val (.ref b46), .unset] [(.int (3 : Int32)), (.int (1 : Int32))])) _
      refine XS.icmpYes X52.here hx rfl (pc0 := 142) (pc' := 153) rfl (hb hby at_142) rfl (flt (by decide)).2.2.2 (by decide) (by decide) ?_
      show Steps p.tables e below (T52.setTop (mkF m 153 #[.val (.int p0), .val (.int p1), .val (.int p2), .val (.int p3), .val (.int bd), .val (.int sel), .val (.ref b2), .val (.int (1 : Int32)), .val (.int pk), .val (.int q), .val (.ref b46), .unset] [])) _
      refine XS.iconst X52.here hx rfl (hb hby at_153) ?_
      show Steps p.tables e below (T52.setTop (mkF m 154 #[.val (.int p0), .val (.int p1), .val (.int p2), .val (.int p3), .val (.int bd), .val (.int sel), .val (.ref b2), .val (.int (1 : Int32)), .val (.int pk), .val (.int q), .val (.ref b46), .unset] [(.int (0 : Int32))])) _
      refine XS.istore X52.here hx rfl (hb hby at_154) rfl (l' := #[.val (.int p0), .val (.int p1), .val (.int p2), .val (.int p3), .val (.int bd), .val (.int sel), .val (.ref b2), .val (.int (1 : Int32)), .val (.int pk), .val (.int q), .val (.ref b46), .val (.int (0 : Int32))]) rfl ?_
      show Steps p.tables e below (T52.setTop (mkF m 156 #[.val (.int p0), .val (.int p1), .val (.int p2), .val (.int p3), .val (.int bd), .val (.int sel), .val (.ref b2), .val (.int (1 : Int32)), .val (.int pk), .val (.int q), .val (.ref b46), .val (.int (0 : Int32))] [])) _
      refine XS.iload X52.here hx rfl (hb hby at_156) rfl ?_
      show Steps p.tables e below (T52.setTop (mkF m 158 #[.val (.int p0), .val (.int p1), .val (.int p2), .val (.int p3), .val (.int bd), .val (.int sel), .val (.ref b2), .val (.int (1 : Int32)), .val (.int pk), .val (.int q), .val (.ref b46), .val (.int (0 : Int32))] [(.int (1 : Int32))])) _
      refine XS.ifNo X52.here hx rfl (hb hby at_158) rfl ((if0 _ _).trans (tlt (by decide)).2.2.2) ?_
      show Steps p.tables e below (T52.setTop (mkF m 161 #[.val (.int p0), .val (.int p1), .val (.int p2), .val (.int p3), .val (.int bd), .val (.int sel), .val (.ref b2), .val (.int (1 : Int32)), .val (.int pk), .val (.int q), .val (.ref b46), .val (.int (0 : Int32))] [])) _
      refine XS.aload X52.here hx rfl (hb hby at_161) rfl rfl ?_
      show Steps p.tables e below (T52.setTop (mkF m 163 #[.val (.int p0), .val (.int p1), .val (.int p2), .val (.int p3), .val (.int bd), .val (.int sel), .val (.ref b2), .val (.int (1 : Int32)), .val (.int pk), .val (.int q), .val (.ref b46), .val (.int (0 : Int32))] [(.ref b2)])) _
      refine XS.iconst X52.here hx rfl (hb hby at_163) ?_
      show Steps p.tables e below (T52.setTop (mkF m 164 #[.val (.int p0), .val (.int p1), .val (.int p2), .val (.int p3), .val (.int bd), .val (.int sel), .val (.ref b2), .val (.int (1 : Int32)), .val (.int pk), .val (.int q), .val (.ref b46), .val (.int (0 : Int32))] [(.int (0 : Int32)), (.ref b2)])) _
      exact kt
    have f54 := (f48.other W52 ne_b2_b46)
    obtain ⟨cl55, Ar55, qq55, S55, M55, H55, GG55⟩ := id f54
    have hin55 : ¬ ((0 : Int32) < 0 ∨ cl55.slots.size ≤ ((0 : Int32)).toNatClampNeg) := inb_of S55 ⟨by decide, by decide⟩
    have hat55 : cl55.slots[((0 : Int32)).toNatClampNeg]? = some (.int t0) := Has.at H55 hin55 rfl
    have K56 : ∀ t, Steps p.tables e below (T52.setTop (mkF m 167 #[.val (.int p0), .val (.int p1), .val (.int p2), .val (.int p3), .val (.int bd), .val (.int sel), .val (.ref b2), .val (.int (1 : Int32)), .val (.int pk), .val (.int q), .val (.ref b46), .val (.int (0 : Int32))] [(.int q), (.int t0)])) t → Steps p.tables e below G0 t := by
      intro t kt
      refine K53 t ?_
      refine X52.iaload hx (j := (0 : Int32)) (v := (.int t0)) (by rw [e52]; exact (Ar55).1) (State.isArrayOf_alike hZ.alike (Ar55).2.1) (Ar55).2.2 hin55 hat55 (g := (mkF m 164 #[.val (.int p0), .val (.int p1), .val (.int p2), .val (.int p3), .val (.int bd), .val (.int sel), .val (.ref b2), .val (.int (1 : Int32)), .val (.int pk), .val (.int q), .val (.ref b46), .val (.int (0 : Int32))] [(.int (0 : Int32)), (.ref b2)])) rfl rfl (hb hby at_164) _ ?_
      show Steps p.tables e below (T52.setTop (mkF m 165 #[.val (.int p0), .val (.int p1), .val (.int p2), .val (.int p3), .val (.int bd), .val (.int sel), .val (.ref b2), .val (.int (1 : Int32)), .val (.int pk), .val (.int q), .val (.ref b46), .val (.int (0 : Int32))] [(.int t0)])) _
      refine XS.iload X52.here hx rfl (hb hby at_165) rfl ?_
      show Steps p.tables e below (T52.setTop (mkF m 167 #[.val (.int p0), .val (.int p1), .val (.int p2), .val (.int p3), .val (.int bd), .val (.int sel), .val (.ref b2), .val (.int (1 : Int32)), .val (.int pk), .val (.int q), .val (.ref b46), .val (.int (0 : Int32))] [(.int q), (.int t0)])) _
      exact kt
    have K57 : ∀ t, Steps p.tables e below (T52.setTop (mkF m 173 #[.val (.int p0), .val (.int p1), .val (.int p2), .val (.int p3), .val (.int bd), .val (.int sel), .val (.ref b2), .val (.int (1 : Int32)), .val (.int pk), .val (.int q), .val (.ref b46), .val (.int (own_inc q t0 (0 : Int32)))] [])) t → Steps p.tables e below G0 t := by
      by_cases hc58 : q < t0
      ·
        have K59 : ∀ t, Steps p.tables e below (T52.setTop (mkF m 173 #[.val (.int p0), .val (.int p1), .val (.int p2), .val (.int p3), .val (.int bd), .val (.int sel), .val (.ref b2), .val (.int (1 : Int32)), .val (.int pk), .val (.int q), .val (.ref b46), .val (.int (0 : Int32))] [])) t → Steps p.tables e below G0 t := by
          intro t kt
          refine K56 t ?_
          refine XS.icmpYes X52.here hx rfl (pc0 := 167) (pc' := 173) rfl (hb hby at_167) rfl (tlt hc58).2.2.1 (by decide) (by decide) ?_
          show Steps p.tables e below (T52.setTop (mkF m 173 #[.val (.int p0), .val (.int p1), .val (.int p2), .val (.int p3), .val (.int bd), .val (.int sel), .val (.ref b2), .val (.int (1 : Int32)), .val (.int pk), .val (.int q), .val (.ref b46), .val (.int (0 : Int32))] [])) _
          exact kt
        rw [own_inc, if_pos hc58]
        exact K59
      ·
        have K60 : ∀ t, Steps p.tables e below (T52.setTop (mkF m 173 #[.val (.int p0), .val (.int p1), .val (.int p2), .val (.int p3), .val (.int bd), .val (.int sel), .val (.ref b2), .val (.int (1 : Int32)), .val (.int pk), .val (.int q), .val (.ref b46), .val (.int ((0 : Int32) + (1 : Int32)))] [])) t → Steps p.tables e below G0 t := by
          intro t kt
          refine K56 t ?_
          refine XS.icmpNo X52.here hx rfl (hb hby at_167) rfl (flt hc58).2.2.1 ?_
          show Steps p.tables e below (T52.setTop (mkF m 170 #[.val (.int p0), .val (.int p1), .val (.int p2), .val (.int p3), .val (.int bd), .val (.int sel), .val (.ref b2), .val (.int (1 : Int32)), .val (.int pk), .val (.int q), .val (.ref b46), .val (.int (0 : Int32))] [])) _
          refine XS.iinc X52.here hx rfl (hb hby at_170) rfl (l' := #[.val (.int p0), .val (.int p1), .val (.int p2), .val (.int p3), .val (.int bd), .val (.int sel), .val (.ref b2), .val (.int (1 : Int32)), .val (.int pk), .val (.int q), .val (.ref b46), .val (.int ((0 : Int32) + (1 : Int32)))]) rfl ?_
          show Steps p.tables e below (T52.setTop (mkF m 173 #[.val (.int p0), .val (.int p1), .val (.int p2), .val (.int p3), .val (.int bd), .val (.int sel), .val (.ref b2), .val (.int (1 : Int32)), .val (.int pk), .val (.int q), .val (.ref b46), .val (.int ((0 : Int32) + (1 : Int32)))] [])) _
          exact kt
        rw [own_inc, if_neg hc58]
        exact K60
    have K61 : ∀ t, Steps p.tables e below (T52.setTop (mkF m 231 #[.val (.int p0), .val (.int p1), .val (.int p2), .val (.int p3), .val (.int bd), .val (.int sel), .val (.ref b2), .val (.int (1 : Int32)), .val (.int pk), .val (.int q), .val (.ref b46), .val (.int (own_inc q t0 (0 : Int32)))] [(.int q), (.ref b46)])) t → Steps p.tables e below G0 t := by
      intro t kt
      refine K57 t ?_
      refine XS.iload X52.here hx rfl (hb hby at_173) rfl ?_
      show Steps p.tables e below (T52.setTop (mkF m 175 #[.val (.int p0), .val (.int p1), .val (.int p2), .val (.int p3), .val (.int bd), .val (.int sel), .val (.ref b2), .val (.int (1 : Int32)), .val (.int pk), .val (.int q), .val (.ref b46), .val (.int (own_inc q t0 (0 : Int32)))] [(.int (1 : Int32))])) _
      refine XS.iconst X52.here hx rfl (hb hby at_175) ?_
      show Steps p.tables e below (T52.setTop (mkF m 176 #[.val (.int p0), .val (.int p1), .val (.int p2), .val (.int p3), .val (.int bd), .val (.int sel), .val (.ref b2), .val (.int (1 : Int32)), .val (.int pk), .val (.int q), .val (.ref b46), .val (.int (own_inc q t0 (0 : Int32)))] [(.int (1 : Int32)), (.int (1 : Int32))])) _
      refine XS.icmpYes X52.here hx rfl (pc0 := 176) (pc' := 191) rfl (hb hby at_176) rfl (flt (by decide)).2.2.2 (by decide) (by decide) ?_
      show Steps p.tables e below (T52.setTop (mkF m 191 #[.val (.int p0), .val (.int p1), .val (.int p2), .val (.int p3), .val (.int bd), .val (.int sel), .val (.ref b2), .val (.int (1 : Int32)), .val (.int pk), .val (.int q), .val (.ref b46), .val (.int (own_inc q t0 (0 : Int32)))] [])) _
      refine XS.iload X52.here hx rfl (hb hby at_191) rfl ?_
      show Steps p.tables e below (T52.setTop (mkF m 193 #[.val (.int p0), .val (.int p1), .val (.int p2), .val (.int p3), .val (.int bd), .val (.int sel), .val (.ref b2), .val (.int (1 : Int32)), .val (.int pk), .val (.int q), .val (.ref b46), .val (.int (own_inc q t0 (0 : Int32)))] [(.int (1 : Int32))])) _
      refine XS.iconst X52.here hx rfl (hb hby at_193) ?_
      show Steps p.tables e below (T52.setTop (mkF m 194 #[.val (.int p0), .val (.int p1), .val (.int p2), .val (.int p3), .val (.int bd), .val (.int sel), .val (.ref b2), .val (.int (1 : Int32)), .val (.int pk), .val (.int q), .val (.ref b46), .val (.int (own_inc q t0 (0 : Int32)))] [(.int (2 : Int32)), (.int (1 : Int32))])) _
      refine XS.icmpYes X52.here hx rfl (pc0 := 194) (pc' := 209) rfl (hb hby at_194) rfl (flt (by decide)).2.2.2 (by decide) (by decide) ?_
      show Steps p.tables e below (T52.setTop (mkF m 209 #[.val (.int p0), .val (.int p1), .val (.int p2), .val (.int p3), .val (.int bd), .val (.int sel), .val (.ref b2), .val (.int (1 : Int32)), .val (.int pk), .val (.int q), .val (.ref b46), .val (.int (own_inc q t0 (0 : Int32)))] [])) _
      refine XS.iload X52.here hx rfl (hb hby at_209) rfl ?_
      show Steps p.tables e below (T52.setTop (mkF m 211 #[.val (.int p0), .val (.int p1), .val (.int p2), .val (.int p3), .val (.int bd), .val (.int sel), .val (.ref b2), .val (.int (1 : Int32)), .val (.int pk), .val (.int q), .val (.ref b46), .val (.int (own_inc q t0 (0 : Int32)))] [(.int (1 : Int32))])) _
      refine XS.iconst X52.here hx rfl (hb hby at_211) ?_
      show Steps p.tables e below (T52.setTop (mkF m 212 #[.val (.int p0), .val (.int p1), .val (.int p2), .val (.int p3), .val (.int bd), .val (.int sel), .val (.ref b2), .val (.int (1 : Int32)), .val (.int pk), .val (.int q), .val (.ref b46), .val (.int (own_inc q t0 (0 : Int32)))] [(.int (3 : Int32)), (.int (1 : Int32))])) _
      refine XS.icmpYes X52.here hx rfl (pc0 := 212) (pc' := 227) rfl (hb hby at_212) rfl (flt (by decide)).2.2.2 (by decide) (by decide) ?_
      show Steps p.tables e below (T52.setTop (mkF m 227 #[.val (.int p0), .val (.int p1), .val (.int p2), .val (.int p3), .val (.int bd), .val (.int sel), .val (.ref b2), .val (.int (1 : Int32)), .val (.int pk), .val (.int q), .val (.ref b46), .val (.int (own_inc q t0 (0 : Int32)))] [])) _
      refine XS.aload X52.here hx rfl (hb hby at_227) rfl rfl ?_
      show Steps p.tables e below (T52.setTop (mkF m 229 #[.val (.int p0), .val (.int p1), .val (.int p2), .val (.int p3), .val (.int bd), .val (.int sel), .val (.ref b2), .val (.int (1 : Int32)), .val (.int pk), .val (.int q), .val (.ref b46), .val (.int (own_inc q t0 (0 : Int32)))] [(.ref b46)])) _
      refine XS.iload X52.here hx rfl (hb hby at_229) rfl ?_
      show Steps p.tables e below (T52.setTop (mkF m 231 #[.val (.int p0), .val (.int p1), .val (.int p2), .val (.int p3), .val (.int bd), .val (.int sel), .val (.ref b2), .val (.int (1 : Int32)), .val (.int pk), .val (.int q), .val (.ref b46), .val (.int (own_inc q t0 (0 : Int32)))] [(.int q), (.ref b46)])) _
      exact kt
    obtain ⟨_, _, ⟨T62, L62, k62, n62⟩, -, X62, ⟨Lc62, hQ62, l62, y62, z62⟩, st62⟩ := Jvm.LawKit.callS X52 hx (y := (⟨"com/example/lichen/lichen/analysis/Runs", "countUpTo", "([II)I"⟩ : MethodName)) hown (mvT hZ (hw _ (List.mem_of_getElem? (i := 6) rfl))) (mvT hZ (hw _ (List.mem_of_getElem? (i := 7) rfl))) (mvT hZ (hw _ (List.mem_of_getElem? (i := 8) rfl))) (mvT hZ (hw _ (List.mem_of_getElem? (i := 9) rfl))) (by decide) (backOf (W := 0) (rm2_1 l Z aa hw [] (b46) (q) _ t0 h52 n0 Z52 VL52 ) hZ (hw _ (List.mem_of_getElem? (i := 9) rfl)) (hw _ (List.mem_of_getElem? (i := 8) rfl)) (by decide) (by decide)) (g := (mkF m 231 #[.val (.int p0), .val (.int p1), .val (.int p2), .val (.int p3), .val (.int bd), .val (.int sel), .val (.ref b2), .val (.int (1 : Int32)), .val (.int pk), .val (.int q), .val (.ref b46), .val (.int (own_inc q t0 (0 : Int32)))] [(.int q), (.ref b46)])) rfl (by rw [hml]; rfl) (argsL := [(.ref b46), (.int q)]) (rest := []) (lenOf pd_P_IIQI rfl) rfl (by show 2 * 0 + _ ≤ _; exact Nat.le_of_eq rfl) (hb hby at_231) (fun _ _ => ⟨rfl, e52, (by decide : 2 + 0 ≤ _), (by decide : 5 + 0 ≤ _)⟩)
    dsimp only [Pt.U, Pt.locs, Pt.cells, Pt.slots] at X62 l62 y62 z62 st62 hQ62
    subst l62 y62 z62
    obtain ⟨rfl, N62q, e62⟩ := hQ62
    have N62 := Fr.app N52 N62q
    have K62 : ∀ t, Steps p.tables e below (T62.setTop (mkF m 234 #[.val (.int p0), .val (.int p1), .val (.int p2), .val (.int p3), .val (.int bd), .val (.int sel), .val (.ref b2), .val (.int (1 : Int32)), .val (.int pk), .val (.int q), .val (.ref b46), .val (.int (own_inc q t0 (0 : Int32)))] [(.int (own_inc q t0 (0 : Int32)))])) t → Steps p.tables e below G0 t := fun t kt => K61 t (st62 _ kt)
    have K63 : ∀ t, Steps p.tables e below (T62.setTop (mkF m 244 #[.val (.int p0), .val (.int p1), .val (.int p2), .val (.int p3), .val (.int bd), .val (.int sel), .val (.ref b2), .val (.int (1 : Int32)), .val (.int pk), .val (.int q), .val (.ref b46), .val (.int (own_inc q t0 (0 : Int32)))] [(.int (1 : Int32))])) t → Steps p.tables e below G0 t := by
      intro t kt
      refine K62 t ?_
      refine XS.iload X62.here hx rfl (hb hby at_234) rfl ?_
      show Steps p.tables e below (T62.setTop (mkF m 236 #[.val (.int p0), .val (.int p1), .val (.int p2), .val (.int p3), .val (.int bd), .val (.int sel), .val (.ref b2), .val (.int (1 : Int32)), .val (.int pk), .val (.int q), .val (.ref b46), .val (.int (own_inc q t0 (0 : Int32)))] [(.int (own_inc q t0 (0 : Int32))), (.int (own_inc q t0 (0 : Int32)))])) _
      refine XS.icmpNo X62.here hx rfl (hb hby at_236) rfl (teq rfl).2 ?_
      show Steps p.tables e below (T62.setTop (mkF m 239 #[.val (.int p0), .val (.int p1), .val (.int p2), .val (.int p3), .val (.int bd), .val (.int sel), .val (.ref b2), .val (.int (1 : Int32)), .val (.int pk), .val (.int q), .val (.ref b46), .val (.int (own_inc q t0 (0 : Int32)))] [])) _
      refine XS.iconst X62.here hx rfl (hb hby at_239) ?_
      show Steps p.tables e below (T62.setTop (mkF m 240 #[.val (.int p0), .val (.int p1), .val (.int p2), .val (.int p3), .val (.int bd), .val (.int sel), .val (.ref b2), .val (.int (1 : Int32)), .val (.int pk), .val (.int q), .val (.ref b46), .val (.int (own_inc q t0 (0 : Int32)))] [(.int (1 : Int32))])) _
      refine XS.goto X62.here hx rfl (pc0 := 240) (pc' := 244) rfl (hb hby at_240) (by decide) (by decide) ?_
      show Steps p.tables e below (T62.setTop (mkF m 244 #[.val (.int p0), .val (.int p1), .val (.int p2), .val (.int p3), .val (.int bd), .val (.int sel), .val (.ref b2), .val (.int (1 : Int32)), .val (.int pk), .val (.int q), .val (.ref b46), .val (.int (own_inc q t0 (0 : Int32)))] [(.int (1 : Int32))])) _
      exact kt
    obtain ⟨fs, hr, hrun, hended, hW, hsame⟩ := X62.leave (v := some (.int (1 : Int32))) (fun h => by rw [Bd.returns] at h; cases h)
    refine ⟨_, _, ?_, hrun, hended, _, _, rfl, ?_, ⟨_, rfl⟩, hW, hsame.mono (by decide) (by decide)⟩
    · rw [← hG0]
      refine K63 _ ?_
      exact retN X62 hx (t := .boolean) Bd.returns (by simp) (hb hby at_244) hr
    · show Q0 Z p0 p1 p2 p3 bd sel h0 n0 _ T62.heap _
      rw [e62]
      exact ⟨rfl, N62⟩
  ·
    rw [hn] at K28
    have K64 : ∀ t, Steps p.tables e below (T24.setTop (mkF m 94 #[.val (.int p0), .val (.int p1), .val (.int p2), .val (.int p3), .val (.int bd), .val (.int sel), .val (.ref b2), .val (.int (2 : Int32)), .val (.int pk), .val (.int q), .unset, .unset] [(.int (2 : Int32))])) t → Steps p.tables e below G0 t := by
      intro t kt
      refine K28 t ?_
      refine XS.iload X24.here hx rfl (hb hby at_92) rfl ?_
      show Steps p.tables e below (T24.setTop (mkF m 94 #[.val (.int p0), .val (.int p1), .val (.int p2), .val (.int p3), .val (.int bd), .val (.int sel), .val (.ref b2), .val (.int (2 : Int32)), .val (.int pk), .val (.int q), .unset, .unset] [(.int (2 : Int32))])) _
      exact kt
    obtain ⟨T65, h65, k65, X65, e65, E65, A65, st65⟩ := newP X24 hx hZ (hw _ (List.mem_of_getElem? (i := 0) rfl)) (rfl : T24.heap = _) (g := (mkF m 94 #[.val (.int p0), .val (.int p1), .val (.int p2), .val (.int p3), .val (.int bd), .val (.int sel), .val (.ref b2), .val (.int (2 : Int32)), .val (.int pk), .val (.int q), .unset, .unset] [(.int (2 : Int32))])) rfl (hb hby at_94) rfl (by decide) (cap := 2) (by decide) (by decide) (by decide) (by decide)
    obtain ⟨b65, g65⟩ : ∃ z, z = T24.heap.size := ⟨_, rfl⟩
    rw [← g65] at A65 st65
    have V65 := Arv.new A65 (by decide)
    have gn65 : n0 ≤ b65 := Nat.le_trans Z24 (Nat.le_of_eq g65.symm)
    have Z65 : n0 ≤ h65.size := Nat.le_trans Z24 E65.1
    have K65 : ∀ t, Steps p.tables e below (T65.setTop (mkF m 96 #[.val (.int p0), .val (.int p1), .val (.int p2), .val (.int p3), .val (.int bd), .val (.int sel), .val (.ref b2), .val (.int (2 : Int32)), .val (.int pk), .val (.int q), .unset, .unset] [(.ref b65)])) t → Steps p.tables e below G0 t := fun t kt => K64 t (st65 _ kt)
    have ne_b2_b65 : b2 ≠ b65 := Nat.ne_of_lt (Nat.lt_of_lt_of_le (VVx12).lt (Nat.le_of_eq g65.symm))
    have VL65 : Arv Z h65 b65 k65 .int (2 : Int32) [(.int (0 : Int32)), (.int (0 : Int32))] (.int (0 : Int32)) := V65.pad (pad_rep [] (.int (0 : Int32)) 2)
    have K66 : ∀ t, Steps p.tables e below (T65.setTop (mkF m 109 #[.val (.int p0), .val (.int p1), .val (.int p2), .val (.int p3), .val (.int bd), .val (.int sel), .val (.ref b2), .val (.int (2 : Int32)), .val (.int pk), .val (.int q), .val (.ref b65), .unset] [(.int (0 : Int32)), (.ref b2), (.int (0 : Int32)), (.ref b65)])) t → Steps p.tables e below G0 t := by
      intro t kt
      refine K65 t ?_
      refine XS.astore X65.here hx rfl (hb hby at_96) rfl rfl (l' := #[.val (.int p0), .val (.int p1), .val (.int p2), .val (.int p3), .val (.int bd), .val (.int sel), .val (.ref b2), .val (.int (2 : Int32)), .val (.int pk), .val (.int q), .val (.ref b65), .unset]) rfl ?_
      show Steps p.tables e below (T65.setTop (mkF m 98 #[.val (.int p0), .val (.int p1), .val (.int p2), .val (.int p3), .val (.int bd), .val (.int sel), .val (.ref b2), .val (.int (2 : Int32)), .val (.int pk), .val (.int q), .val (.ref b65), .unset] [])) _
      refine XS.iload X65.here hx rfl (hb hby at_98) rfl ?_
      show Steps p.tables e below (T65.setTop (mkF m 100 #[.val (.int p0), .val (.int p1), .val (.int p2), .val (.int p3), .val (.int bd), .val (.int sel), .val (.ref b2), .val (.int (2 : Int32)), .val (.int pk), .val (.int q), .val (.ref b65), .unset] [(.int (2 : Int32))])) _
      refine XS.ifNo X65.here hx rfl (hb hby at_100) rfl ((if0 _ _).trans (tlt (by decide)).2.2.2) ?_
      show Steps p.tables e below (T65.setTop (mkF m 103 #[.val (.int p0), .val (.int p1), .val (.int p2), .val (.int p3), .val (.int bd), .val (.int sel), .val (.ref b2), .val (.int (2 : Int32)), .val (.int pk), .val (.int q), .val (.ref b65), .unset] [])) _
      refine XS.aload X65.here hx rfl (hb hby at_103) rfl rfl ?_
      show Steps p.tables e below (T65.setTop (mkF m 105 #[.val (.int p0), .val (.int p1), .val (.int p2), .val (.int p3), .val (.int bd), .val (.int sel), .val (.ref b2), .val (.int (2 : Int32)), .val (.int pk), .val (.int q), .val (.ref b65), .unset] [(.ref b65)])) _
      refine XS.iconst X65.here hx rfl (hb hby at_105) ?_
      show Steps p.tables e below (T65.setTop (mkF m 106 #[.val (.int p0), .val (.int p1), .val (.int p2), .val (.int p3), .val (.int bd), .val (.int sel), .val (.ref b2), .val (.int (2 : Int32)), .val (.int pk), .val (.int q), .val (.ref b65), .unset] [(.int (0 : Int32)), (.ref b65)])) _
      refine XS.aload X65.here hx rfl (hb hby at_106) rfl rfl ?_
      show Steps p.tables e below (T65.setTop (mkF m 108 #[.val (.int p0), .val (.int p1), .val (.int p2), .val (.int p3), .val (.int bd), .val (.int sel), .val (.ref b2), .val (.int (2 : Int32)), .val (.int pk), .val (.int q), .val (.ref b65), .unset] [(.ref b2), (.int (0 : Int32)), (.ref b65)])) _
      refine XS.iconst X65.here hx rfl (hb hby at_108) ?_
      show Steps p.tables e below (T65.setTop (mkF m 109 #[.val (.int p0), .val (.int p1), .val (.int p2), .val (.int p3), .val (.int bd), .val (.int sel), .val (.ref b2), .val (.int (2 : Int32)), .val (.int pk), .val (.int q), .val (.ref b65), .unset] [(.int (0 : Int32)), (.ref b2), (.int (0 : Int32)), (.ref b65)])) _
      exact kt
    have f67 := (VVx12.ext E65)
    obtain ⟨cl68, Ar68, qq68, S68, M68, H68, GG68⟩ := id f67
    have hin68 : ¬ ((0 : Int32) < 0 ∨ cl68.slots.size ≤ ((0 : Int32)).toNatClampNeg) := inb_of S68 ⟨by decide, by decide⟩
    have hat68 : cl68.slots[((0 : Int32)).toNatClampNeg]? = some (.int t0) := Has.at H68 hin68 rfl
    have K69 : ∀ t, Steps p.tables e below (T65.setTop (mkF m 110 #[.val (.int p0), .val (.int p1), .val (.int p2), .val (.int p3), .val (.int bd), .val (.int sel), .val (.ref b2), .val (.int (2 : Int32)), .val (.int pk), .val (.int q), .val (.ref b65), .unset] [(.int t0), (.int (0 : Int32)), (.ref b65)])) t → Steps p.tables e below G0 t := by
      intro t kt
      refine K66 t ?_
      refine X65.iaload hx (j := (0 : Int32)) (v := (.int t0)) (by rw [e65]; exact (Ar68).1) (State.isArrayOf_alike hZ.alike (Ar68).2.1) (Ar68).2.2 hin68 hat68 (g := (mkF m 109 #[.val (.int p0), .val (.int p1), .val (.int p2), .val (.int p3), .val (.int bd), .val (.int sel), .val (.ref b2), .val (.int (2 : Int32)), .val (.int pk), .val (.int q), .val (.ref b65), .unset] [(.int (0 : Int32)), (.ref b2), (.int (0 : Int32)), (.ref b65)])) rfl rfl (hb hby at_109) _ ?_
      show Steps p.tables e below (T65.setTop (mkF m 110 #[.val (.int p0), .val (.int p1), .val (.int p2), .val (.int p3), .val (.int bd), .val (.int sel), .val (.ref b2), .val (.int (2 : Int32)), .val (.int pk), .val (.int q), .val (.ref b65), .unset] [(.int t0), (.int (0 : Int32)), (.ref b65)])) _
      exact kt
    obtain ⟨cl70, Ar70, qq70, S70, M70, H70, GG70⟩ := id VL65
    have hin70 : ¬ ((0 : Int32) < 0 ∨ cl70.slots.size ≤ ((0 : Int32)).toNatClampNeg) := inb_of S70 ⟨by decide, by decide⟩
    obtain ⟨T71, h71, X71, e71, W71, st71⟩ := stI X65 hx hZ e65 Ar70 (j := (0 : Int32)) hin70 (g := (mkF m 110 #[.val (.int p0), .val (.int p1), .val (.int p2), .val (.int p3), .val (.int bd), .val (.int sel), .val (.ref b2), .val (.int (2 : Int32)), .val (.int pk), .val (.int q), .val (.ref b65), .unset] [(.int t0), (.int (0 : Int32)), (.ref b65)])) rfl rfl (hb hby at_110)
    have K71 : ∀ t, Steps p.tables e below (T71.setTop (mkF m 111 #[.val (.int p0), .val (.int p1), .val (.int p2), .val (.int p3), .val (.int bd), .val (.int sel), .val (.ref b2), .val (.int (2 : Int32)), .val (.int pk), .val (.int q), .val (.ref b65), .unset] [])) t → Steps p.tables e below G0 t := fun t kt => K69 t (st71 _ kt)
    have Z71 : n0 ≤ h71.size := Nat.le_trans Z65 (Keep.of_wr W71).1
    have VL71 : Arv Z h71 b65 k65 .int (2 : Int32) [(.int t0), (.int (0 : Int32))] (.int (0 : Int32)) := Arv.set Ar70 qq70 S70 M70 H70 GG70 rfl W71 0 rfl (Nat.le_of_ble_eq_true rfl)
    have N71 := Fr.snoc X71 N24 gn65
    have K72 : ∀ t, Steps p.tables e below (T71.setTop (mkF m 123 #[.val (.int p0), .val (.int p1), .val (.int p2), .val (.int p3), .val (.int bd), .val (.int sel), .val (.ref b2), .val (.int (2 : Int32)), .val (.int pk), .val (.int q), .val (.ref b65), .unset] [(.int (1 : Int32)), (.ref b2), (.int (1 : Int32)), (.ref b65)])) t → Steps p.tables e below G0 t := by
      intro t kt
      refine K71 t ?_
      refine XS.iload X71.here hx rfl (hb hby at_111) rfl ?_
      show Steps p.tables e below (T71.setTop (mkF m 113 #[.val (.int p0), .val (.int p1), .val (.int p2), .val (.int p3), .val (.int bd), .val (.int sel), .val (.ref b2), .val (.int (2 : Int32)), .val (.int pk), .val (.int q), .val (.ref b65), .unset] [(.int (2 : Int32))])) _
      refine XS.iconst X71.here hx rfl (hb hby at_113) ?_
      show Steps p.tables e below (T71.setTop (mkF m 114 #[.val (.int p0), .val (.int p1), .val (.int p2), .val (.int p3), .val (.int bd), .val (.int sel), .val (.ref b2), .val (.int (2 : Int32)), .val (.int pk), .val (.int q), .val (.ref b65), .unset] [(.int (1 : Int32)), (.int (2 : Int32))])) _
      refine XS.icmpNo X71.here hx rfl (hb hby at_114) rfl (tlt (by decide)).2.2.2 ?_
      show Steps p.tables e below (T71.setTop (mkF m 117 #[.val (.int p0), .val (.int p1), .val (.int p2), .val (.int p3), .val (.int bd), .val (.int sel), .val (.ref b2), .val (.int (2 : Int32)), .val (.int pk), .val (.int q), .val (.ref b65), .unset] [])) _
      refine XS.aload X71.here hx rfl (hb hby at_117) rfl rfl ?_
      show Steps p.tables e below (T71.setTop (mkF m 119 #[.val (.int p0), .val (.int p1), .val (.int p2), .val (.int p3), .val (.int bd), .val (.int sel), .val (.ref b2), .val (.int (2 : Int32)), .val (.int pk), .val (.int q), .val (.ref b65), .unset] [(.ref b65)])) _
      refine XS.iconst X71.here hx rfl (hb hby at_119) ?_
      show Steps p.tables e below (T71.setTop (mkF m 120 #[.val (.int p0), .val (.int p1), .val (.int p2), .val (.int p3), .val (.int bd), .val (.int sel), .val (.ref b2), .val (.int (2 : Int32)), .val (.int pk), .val (.int q), .val (.ref b65), .unset] [(.int (1 : Int32)), (.ref b65)])) _
      refine XS.aload X71.here hx rfl (hb hby at_120) rfl rfl ?_
      show Steps p.tables e below (T71.setTop (mkF m 122 #[.val (.int p0), .val (.int p1), .val (.int p2), .val (.int p3), .val (.int bd), .val (.int sel), .val (.ref b2), .val (.int (2 : Int32)), .val (.int pk), .val (.int q), .val (.ref b65), .unset] [(.ref b2), (.int (1 : Int32)), (.ref b65)])) _
      refine XS.iconst X71.here hx rfl (hb hby at_122) ?_
      show Steps p.tables e below (T71.setTop (mkF m 123 #[.val (.int p0), .val (.int p1), .val (.int p2), .val (.int p3), .val (.int bd), .val (.int sel), .val (.ref b2), .val (.int (2 : Int32)), .val (.int pk), .val (.int q), .val (.ref b65), .unset] [(.int (1 : Int32)), (.ref b2), (.int (1 : Int32)), (.ref b65)])) _
      exact kt
    have f73 := (f67.other W71 ne_b2_b65)
    obtain ⟨cl74, Ar74, qq74, S74, M74, H74, GG74⟩ := id f73
    have hin74 : ¬ ((1 : Int32) < 0 ∨ cl74.slots.size ≤ ((1 : Int32)).toNatClampNeg) := inb_of S74 ⟨by decide, by decide⟩
    have hat74 : cl74.slots[((1 : Int32)).toNatClampNeg]? = some (.int u1) := Has.at H74 hin74 rfl
    have K75 : ∀ t, Steps p.tables e below (T71.setTop (mkF m 124 #[.val (.int p0), .val (.int p1), .val (.int p2), .val (.int p3), .val (.int bd), .val (.int sel), .val (.ref b2), .val (.int (2 : Int32)), .val (.int pk), .val (.int q), .val (.ref b65), .unset] [(.int u1), (.int (1 : Int32)), (.ref b65)])) t → Steps p.tables e below G0 t := by
      intro t kt
      refine K72 t ?_
      refine X71.iaload hx (j := (1 : Int32)) (v := (.int u1)) (by rw [e71]; exact (Ar74).1) (State.isArrayOf_alike hZ.alike (Ar74).2.1) (Ar74).2.2 hin74 hat74 (g := (mkF m 123 #[.val (.int p0), .val (.int p1), .val (.int p2), .val (.int p3), .val (.int bd), .val (.int sel), .val (.ref b2), .val (.int (2 : Int32)), .val (.int pk), .val (.int q), .val (.ref b65), .unset] [(.int (1 : Int32)), (.ref b2), (.int (1 : Int32)), (.ref b65)])) rfl rfl (hb hby at_123) _ ?_
      show Steps p.tables e below (T71.setTop (mkF m 124 #[.val (.int p0), .val (.int p1), .val (.int p2), .val (.int p3), .val (.int bd), .val (.int sel), .val (.ref b2), .val (.int (2 : Int32)), .val (.int pk), .val (.int q), .val (.ref b65), .unset] [(.int u1), (.int (1 : Int32)), (.ref b65)])) _
      exact kt
    obtain ⟨cl76, Ar76, qq76, S76, M76, H76, GG76⟩ := id VL71
    have hin76 : ¬ ((1 : Int32) < 0 ∨ cl76.slots.size ≤ ((1 : Int32)).toNatClampNeg) := inb_of S76 ⟨by decide, by decide⟩
    obtain ⟨T77, h77, X77, e77, W77, st77⟩ := stI X71 hx hZ e71 Ar76 (j := (1 : Int32)) hin76 (g := (mkF m 124 #[.val (.int p0), .val (.int p1), .val (.int p2), .val (.int p3), .val (.int bd), .val (.int sel), .val (.ref b2), .val (.int (2 : Int32)), .val (.int pk), .val (.int q), .val (.ref b65), .unset] [(.int u1), (.int (1 : Int32)), (.ref b65)])) rfl rfl (hb hby at_124)
    have K77 : ∀ t, Steps p.tables e below (T77.setTop (mkF m 125 #[.val (.int p0), .val (.int p1), .val (.int p2), .val (.int p3), .val (.int bd), .val (.int sel), .val (.ref b2), .val (.int (2 : Int32)), .val (.int pk), .val (.int q), .val (.ref b65), .unset] [])) t → Steps p.tables e below G0 t := fun t kt => K75 t (st77 _ kt)
    have Z77 : n0 ≤ h77.size := Nat.le_trans Z71 (Keep.of_wr W77).1
    have VL77 : Arv Z h77 b65 k65 .int (2 : Int32) [(.int t0), (.int u1)] (.int (0 : Int32)) := Arv.set Ar76 qq76 S76 M76 H76 GG76 rfl W77 1 rfl (Nat.le_of_ble_eq_true rfl)
    have N77 := Fr.snoc X77 N71 gn65
    have K78 : ∀ t, Steps p.tables e below (T77.setTop (mkF m 164 #[.val (.int p0), .val (.int p1), .val (.int p2), .val (.int p3), .val (.int bd), .val (.int sel), .val (.ref b2), .val (.int (2 : Int32)), .val (.int pk), .val (.int q), .val (.ref b65), .val (.int (0 : Int32))] [(.int (0 : Int32)), (.ref b2)])) t → Steps p.tables e below G0 t := by
      intro t kt
      refine K77 t ?_
      refine XS.iload X77.here hx rfl (hb hby at_125) rfl ?_
      show Steps p.tables e below (T77.setTop (mkF m 127 #[.val (.int p0), .val (.int p1), .val (.int p2), .val (.int p3), .val (.int bd), .val (.int sel), .val (.ref b2), .val (.int (2 : Int32)), .val (.int pk), .val (.int q), .val (.ref b65), .unset] [(.int (2 : Int32))])) _
      refine XS.iconst X77.here hx rfl (hb hby at_127) ?_
      show Steps p.tables e below (T77.setTop (mkF m 128 #[.val (.int p0), .val (.int p1), .val (.int p2), .val (.int p3), .val (.int bd), .val (.int sel), .val (.ref b2), .val (.int (2 : Int32)), .val (.int pk), .val (.int q), .val (.ref b65), .unset] [(.int (2 : Int32)), (.int (2 : Int32))])) _
      refine XS.icmpYes X77.here hx rfl (pc0 := 128) (pc' := 139) rfl (hb hby at_128) rfl (flt (by decide)).2.2.2 (by decide) (by decide) ?_
      show Steps p.tables e below (T77.setTop (mkF m 139 #[.val (.int p0), .val (.int p1), .val (.int p2), .val (.int p3), .val (.int bd), .val (.int sel), .val (.ref b2), .val (.int (2 : Int32)), .val (.int pk), .val (.int q), .val (.ref b65), .unset] [])) _
      refine XS.iload X77.here hx rfl (hb hby at_139) rfl ?_
      show Steps p.tables e below (T77.setTop (mkF m 141 #[.val (.int p0), .val (.int p1), .val (.int p2), .val (.int p3), .val (.int bd), .val (.int sel), .val (.ref b2), .val (.int (2 : Int32)), .val (.int pk), .val (.int q), .val (.ref b65), .unset] [(.int (2 : Int32))])) _
      refine XS.iconst X77.here hx rfl (hb hby at_141) ?_
      show Steps p.tables e below (T77.setTop (mkF m 142 #[.val (.int p0), .val (.int p1), .val (.int p2), .val (.int p3), .val (.int bd), .val (.int sel), .val (.ref b2), .val (.int (2 : Int32)), .val (.int pk), .val (.int q), .val (.ref b65), .unset] [(.int (3 : Int32)), (.int (2 : Int32))])) _
      refine XS.icmpYes X77.here hx rfl (pc0 := 142) (pc' := 153) rfl (hb hby at_142) rfl (flt (by decide)).2.2.2 (by decide) (by decide) ?_
      show Steps p.tables e below (T77.setTop (mkF m 153 #[.val (.int p0), .val (.int p1), .val (.int p2), .val (.int p3), .val (.int bd), .val (.int sel), .val (.ref b2), .val (.int (2 : Int32)), .val (.int pk), .val (.int q), .val (.ref b65), .unset] [])) _
      refine XS.iconst X77.here hx rfl (hb hby at_153) ?_
      show Steps p.tables e below (T77.setTop (mkF m 154 #[.val (.int p0), .val (.int p1), .val (.int p2), .val (.int p3), .val (.int bd), .val (.int sel), .val (.ref b2), .val (.int (2 : Int32)), .val (.int pk), .val (.int q), .val (.ref b65), .unset] [(.int (0 : Int32))])) _
      refine XS.istore X77.here hx rfl (hb hby at_154) rfl (l' := #[.val (.int p0), .val (.int p1), .val (.int p2), .val (.int p3), .val (.int bd), .val (.int sel), .val (.ref b2), .val (.int (2 : Int32)), .val (.int pk), .val (.int q), .val (.ref b65), .val (.int (0 : Int32))]) rfl ?_
      show Steps p.tables e below (T77.setTop (mkF m 156 #[.val (.int p0), .val (.int p1), .val (.int p2), .val (.int p3), .val (.int bd), .val (.int sel), .val (.ref b2), .val (.int (2 : Int32)), .val (.int pk), .val (.int q), .val (.ref b65), .val (.int (0 : Int32))] [])) _
      refine XS.iload X77.here hx rfl (hb hby at_156) rfl ?_
      show Steps p.tables e below (T77.setTop (mkF m 158 #[.val (.int p0), .val (.int p1), .val (.int p2), .val (.int p3), .val (.int bd), .val (.int sel), .val (.ref b2), .val (.int (2 : Int32)), .val (.int pk), .val (.int q), .val (.ref b65), .val (.int (0 : Int32))] [(.int (2 : Int32))])) _
      refine XS.ifNo X77.here hx rfl (hb hby at_158) rfl ((if0 _ _).trans (tlt (by decide)).2.2.2) ?_
      show Steps p.tables e below (T77.setTop (mkF m 161 #[.val (.int p0), .val (.int p1), .val (.int p2), .val (.int p3), .val (.int bd), .val (.int sel), .val (.ref b2), .val (.int (2 : Int32)), .val (.int pk), .val (.int q), .val (.ref b65), .val (.int (0 : Int32))] [])) _
      refine XS.aload X77.here hx rfl (hb hby at_161) rfl rfl ?_
      show Steps p.tables e below (T77.setTop (mkF m 163 #[.val (.int p0), .val (.int p1), .val (.int p2), .val (.int p3), .val (.int bd), .val (.int sel), .val (.ref b2), .val (.int (2 : Int32)), .val (.int pk), .val (.int q), .val (.ref b65), .val (.int (0 : Int32))] [(.ref b2)])) _
      refine XS.iconst X77.here hx rfl (hb hby at_163) ?_
      show Steps p.tables e below (T77.setTop (mkF m 164 #[.val (.int p0), .val (.int p1), .val (.int p2), .val (.int p3), .val (.int bd), .val (.int sel), .val (.ref b2), .val (.int (2 : Int32)), .val (.int pk), .val (.int q), .val (.ref b65), .val (.int (0 : Int32))] [(.int (0 : Int32)), (.ref b2)])) _
      exact kt
    have f79 := (f73.other W77 ne_b2_b65)
    obtain ⟨cl80, Ar80, qq80, S80, M80, H80, GG80⟩ := id f79
    have hin80 : ¬ ((0 : Int32) < 0 ∨ cl80.slots.size ≤ ((0 : Int32)).toNatClampNeg) := inb_of S80 ⟨by decide, by decide⟩
    have hat80 : cl80.slots[((0 : Int32)).toNatClampNeg]? = some (.int t0) := Has.at H80 hin80 rfl
    have K81 : ∀ t, Steps p.tables e below (T77.setTop (mkF m 167 #[.val (.int p0), .val (.int p1), .val (.int p2), .val (.int p3), .val (.int bd), .val (.int sel), .val (.ref b2), .val (.int (2 : Int32)), .val (.int pk), .val (.int q), .val (.ref b65), .val (.int (0 : Int32))] [(.int q), (.int t0)])) t → Steps p.tables e below G0 t := by
      intro t kt
      refine K78 t ?_
      refine X77.iaload hx (j := (0 : Int32)) (v := (.int t0)) (by rw [e77]; exact (Ar80).1) (State.isArrayOf_alike hZ.alike (Ar80).2.1) (Ar80).2.2 hin80 hat80 (g := (mkF m 164 #[.val (.int p0), .val (.int p1), .val (.int p2), .val (.int p3), .val (.int bd), .val (.int sel), .val (.ref b2), .val (.int (2 : Int32)), .val (.int pk), .val (.int q), .val (.ref b65), .val (.int (0 : Int32))] [(.int (0 : Int32)), (.ref b2)])) rfl rfl (hb hby at_164) _ ?_
      show Steps p.tables e below (T77.setTop (mkF m 165 #[.val (.int p0), .val (.int p1), .val (.int p2), .val (.int p3), .val (.int bd), .val (.int sel), .val (.ref b2), .val (.int (2 : Int32)), .val (.int pk), .val (.int q), .val (.ref b65), .val (.int (0 : Int32))] [(.int t0)])) _
      refine XS.iload X77.here hx rfl (hb hby at_165) rfl ?_
      show Steps p.tables e below (T77.setTop (mkF m 167 #[.val (.int p0), .val (.int p1), .val (.int p2), .val (.int p3), .val (.int bd), .val (.int sel), .val (.ref b2), .val (.int (2 : Int32)), .val (.int pk), .val (.int q), .val (.ref b65), .val (.int (0 : Int32))] [(.int q), (.int t0)])) _
      exact kt
    have K82 : ∀ t, Steps p.tables e below (T77.setTop (mkF m 173 #[.val (.int p0), .val (.int p1), .val (.int p2), .val (.int p3), .val (.int bd), .val (.int sel), .val (.ref b2), .val (.int (2 : Int32)), .val (.int pk), .val (.int q), .val (.ref b65), .val (.int (own_inc q t0 (0 : Int32)))] [])) t → Steps p.tables e below G0 t := by
      by_cases hc83 : q < t0
      ·
        have K84 : ∀ t, Steps p.tables e below (T77.setTop (mkF m 173 #[.val (.int p0), .val (.int p1), .val (.int p2), .val (.int p3), .val (.int bd), .val (.int sel), .val (.ref b2), .val (.int (2 : Int32)), .val (.int pk), .val (.int q), .val (.ref b65), .val (.int (0 : Int32))] [])) t → Steps p.tables e below G0 t := by
          intro t kt
          refine K81 t ?_
          refine XS.icmpYes X77.here hx rfl (pc0 := 167) (pc' := 173) rfl (hb hby at_167) rfl (tlt hc83).2.2.1 (by decide) (by decide) ?_
          show Steps p.tables e below (T77.setTop (mkF m 173 #[.val (.int p0), .val (.int p1), .val (.int p2), .val (.int p3), .val (.int bd), .val (.int sel), .val (.ref b2), .val (.int (2 : Int32)), .val (.int pk), .val (.int q), .val (.ref b65), .val (.int (0 : Int32))] [])) _
          exact kt
        rw [own_inc, if_pos hc83]
        exact K84
      ·
        have K85 : ∀ t, Steps p.tables e below (T77.setTop (mkF m 173 #[.val (.int p0), .val (.int p1), .val (.int p2), .val (.int p3), .val (.int bd), .val (.int sel), .val (.ref b2), .val (.int (2 : Int32)), .val (.int pk), .val (.int q), .val (.ref b65), .val (.int ((0 : Int32) + (1 : Int32)))] [])) t → Steps p.tables e below G0 t := by
          intro t kt
          refine K81 t ?_
          refine XS.icmpNo X77.here hx rfl (hb hby at_167) rfl (flt hc83).2.2.1 ?_
          show Steps p.tables e below (T77.setTop (mkF m 170 #[.val (.int p0), .val (.int p1), .val (.int p2), .val (.int p3), .val (.int bd), .val (.int sel), .val (.ref b2), .val (.int (2 : Int32)), .val (.int pk), .val (.int q), .val (.ref b65), .val (.int (0 : Int32))] [])) _
          refine XS.iinc X77.here hx rfl (hb hby at_170) rfl (l' := #[.val (.int p0), .val (.int p1), .val (.int p2), .val (.int p3), .val (.int bd), .val (.int sel), .val (.ref b2), .val (.int (2 : Int32)), .val (.int pk), .val (.int q), .val (.ref b65), .val (.int ((0 : Int32) + (1 : Int32)))]) rfl ?_
          show Steps p.tables e below (T77.setTop (mkF m 173 #[.val (.int p0), .val (.int p1), .val (.int p2), .val (.int p3), .val (.int bd), .val (.int sel), .val (.ref b2), .val (.int (2 : Int32)), .val (.int pk), .val (.int q), .val (.ref b65), .val (.int ((0 : Int32) + (1 : Int32)))] [])) _
          exact kt
        rw [own_inc, if_neg hc83]
        exact K85
    have K86 : ∀ t, Steps p.tables e below (T77.setTop (mkF m 182 #[.val (.int p0), .val (.int p1), .val (.int p2), .val (.int p3), .val (.int bd), .val (.int sel), .val (.ref b2), .val (.int (2 : Int32)), .val (.int pk), .val (.int q), .val (.ref b65), .val (.int (own_inc q t0 (0 : Int32)))] [(.int (1 : Int32)), (.ref b2)])) t → Steps p.tables e below G0 t := by
      intro t kt
      refine K82 t ?_
      refine XS.iload X77.here hx rfl (hb hby at_173) rfl ?_
      show Steps p.tables e below (T77.setTop (mkF m 175 #[.val (.int p0), .val (.int p1), .val (.int p2), .val (.int p3), .val (.int bd), .val (.int sel), .val (.ref b2), .val (.int (2 : Int32)), .val (.int pk), .val (.int q), .val (.ref b65), .val (.int (own_inc q t0 (0 : Int32)))] [(.int (2 : Int32))])) _
      refine XS.iconst X77.here hx rfl (hb hby at_175) ?_
      show Steps p.tables e below (T77.setTop (mkF m 176 #[.val (.int p0), .val (.int p1), .val (.int p2), .val (.int p3), .val (.int bd), .val (.int sel), .val (.ref b2), .val (.int (2 : Int32)), .val (.int pk), .val (.int q), .val (.ref b65), .val (.int (own_inc q t0 (0 : Int32)))] [(.int (1 : Int32)), (.int (2 : Int32))])) _
      refine XS.icmpNo X77.here hx rfl (hb hby at_176) rfl (tlt (by decide)).2.2.2 ?_
      show Steps p.tables e below (T77.setTop (mkF m 179 #[.val (.int p0), .val (.int p1), .val (.int p2), .val (.int p3), .val (.int bd), .val (.int sel), .val (.ref b2), .val (.int (2 : Int32)), .val (.int pk), .val (.int q), .val (.ref b65), .val (.int (own_inc q t0 (0 : Int32)))] [])) _
      refine XS.aload X77.here hx rfl (hb hby at_179) rfl rfl ?_
      show Steps p.tables e below (T77.setTop (mkF m 181 #[.val (.int p0), .val (.int p1), .val (.int p2), .val (.int p3), .val (.int bd), .val (.int sel), .val (.ref b2), .val (.int (2 : Int32)), .val (.int pk), .val (.int q), .val (.ref b65), .val (.int (own_inc q t0 (0 : Int32)))] [(.ref b2)])) _
      refine XS.iconst X77.here hx rfl (hb hby at_181) ?_
      show Steps p.tables e below (T77.setTop (mkF m 182 #[.val (.int p0), .val (.int p1), .val (.int p2), .val (.int p3), .val (.int bd), .val (.int sel), .val (.ref b2), .val (.int (2 : Int32)), .val (.int pk), .val (.int q), .val (.ref b65), .val (.int (own_inc q t0 (0 : Int32)))] [(.int (1 : Int32)), (.ref b2)])) _
      exact kt
    obtain ⟨cl87, Ar87, qq87, S87, M87, H87, GG87⟩ := id f79
    have hin87 : ¬ ((1 : Int32) < 0 ∨ cl87.slots.size ≤ ((1 : Int32)).toNatClampNeg) := inb_of S87 ⟨by decide, by decide⟩
    have hat87 : cl87.slots[((1 : Int32)).toNatClampNeg]? = some (.int u1) := Has.at H87 hin87 rfl
    have K88 : ∀ t, Steps p.tables e below (T77.setTop (mkF m 185 #[.val (.int p0), .val (.int p1), .val (.int p2), .val (.int p3), .val (.int bd), .val (.int sel), .val (.ref b2), .val (.int (2 : Int32)), .val (.int pk), .val (.int q), .val (.ref b65), .val (.int (own_inc q t0 (0 : Int32)))] [(.int q), (.int u1)])) t → Steps p.tables e below G0 t := by
      intro t kt
      refine K86 t ?_
      refine X77.iaload hx (j := (1 : Int32)) (v := (.int u1)) (by rw [e77]; exact (Ar87).1) (State.isArrayOf_alike hZ.alike (Ar87).2.1) (Ar87).2.2 hin87 hat87 (g := (mkF m 182 #[.val (.int p0), .val (.int p1), .val (.int p2), .val (.int p3), .val (.int bd), .val (.int sel), .val (.ref b2), .val (.int (2 : Int32)), .val (.int pk), .val (.int q), .val (.ref b65), .val (.int (own_inc q t0 (0 : Int32)))] [(.int (1 : Int32)), (.ref b2)])) rfl rfl (hb hby at_182) _ ?_
      show Steps p.tables e below (T77.setTop (mkF m 183 #[.val (.int p0), .val (.int p1), .val (.int p2), .val (.int p3), .val (.int bd), .val (.int sel), .val (.ref b2), .val (.int (2 : Int32)), .val (.int pk), .val (.int q), .val (.ref b65), .val (.int (own_inc q t0 (0 : Int32)))] [(.int u1)])) _
      refine XS.iload X77.here hx rfl (hb hby at_183) rfl ?_
      show Steps p.tables e below (T77.setTop (mkF m 185 #[.val (.int p0), .val (.int p1), .val (.int p2), .val (.int p3), .val (.int bd), .val (.int sel), .val (.ref b2), .val (.int (2 : Int32)), .val (.int pk), .val (.int q), .val (.ref b65), .val (.int (own_inc q t0 (0 : Int32)))] [(.int q), (.int u1)])) _
      exact kt
    have K89 : ∀ t, Steps p.tables e below (T77.setTop (mkF m 191 #[.val (.int p0), .val (.int p1), .val (.int p2), .val (.int p3), .val (.int bd), .val (.int sel), .val (.ref b2), .val (.int (2 : Int32)), .val (.int pk), .val (.int q), .val (.ref b65), .val (.int (own_inc q u1 (own_inc q t0 (0 : Int32))))] [])) t → Steps p.tables e below G0 t := by
      by_cases hc90 : q < u1
      ·
        have K91 : ∀ t, Steps p.tables e below (T77.setTop (mkF m 191 #[.val (.int p0), .val (.int p1), .val (.int p2), .val (.int p3), .val (.int bd), .val (.int sel), .val (.ref b2), .val (.int (2 : Int32)), .val (.int pk), .val (.int q), .val (.ref b65), .val (.int (own_inc q t0 (0 : Int32)))] [])) t → Steps p.tables e below G0 t := by
          intro t kt
          refine K88 t ?_
          refine XS.icmpYes X77.here hx rfl (pc0 := 185) (pc' := 191) rfl (hb hby at_185) rfl (tlt hc90).2.2.1 (by decide) (by decide) ?_
          show Steps p.tables e below (T77.setTop (mkF m 191 #[.val (.int p0), .val (.int p1), .val (.int p2), .val (.int p3), .val (.int bd), .val (.int sel), .val (.ref b2), .val (.int (2 : Int32)), .val (.int pk), .val (.int q), .val (.ref b65), .val (.int (own_inc q t0 (0 : Int32)))] [])) _
          exact kt
        rw [own_inc, if_pos hc90]
        exact K91
      ·
        have K92 : ∀ t, Steps p.tables e below (T77.setTop (mkF m 191 #[.val (.int p0), .val (.int p1), .val (.int p2), .val (.int p3), .val (.int bd), .val (.int sel), .val (.ref b2), .val (.int (2 : Int32)), .val (.int pk), .val (.int q), .val (.ref b65), .val (.int ((own_inc q t0 (0 : Int32)) + (1 : Int32)))] [])) t → Steps p.tables e below G0 t := by
          intro t kt
          refine K88 t ?_
          refine XS.icmpNo X77.here hx rfl (hb hby at_185) rfl (flt hc90).2.2.1 ?_
          show Steps p.tables e below (T77.setTop (mkF m 188 #[.val (.int p0), .val (.int p1), .val (.int p2), .val (.int p3), .val (.int bd), .val (.int sel), .val (.ref b2), .val (.int (2 : Int32)), .val (.int pk), .val (.int q), .val (.ref b65), .val (.int (own_inc q t0 (0 : Int32)))] [])) _
          refine XS.iinc X77.here hx rfl (hb hby at_188) rfl (l' := #[.val (.int p0), .val (.int p1), .val (.int p2), .val (.int p3), .val (.int bd), .val (.int sel), .val (.ref b2), .val (.int (2 : Int32)), .val (.int pk), .val (.int q), .val (.ref b65), .val (.int ((own_inc q t0 (0 : Int32)) + (1 : Int32)))]) rfl ?_
          show Steps p.tables e below (T77.setTop (mkF m 191 #[.val (.int p0), .val (.int p1), .val (.int p2), .val (.int p3), .val (.int bd), .val (.int sel), .val (.ref b2), .val (.int (2 : Int32)), .val (.int pk), .val (.int q), .val (.ref b65), .val (.int ((own_inc q t0 (0 : Int32)) + (1 : Int32)))] [])) _
          exact kt
        rw [own_inc, if_neg hc90]
        exact K92
    have K93 : ∀ t, Steps p.tables e below (T77.setTop (mkF m 231 #[.val (.int p0), .val (.int p1), .val (.int p2), .val (.int p3), .val (.int bd), .val (.int sel), .val (.ref b2), .val (.int (2 : Int32)), .val (.int pk), .val (.int q), .val (.ref b65), .val (.int (own_inc q u1 (own_inc q t0 (0 : Int32))))] [(.int q), (.ref b65)])) t → Steps p.tables e below G0 t := by
      intro t kt
      refine K89 t ?_
      refine XS.iload X77.here hx rfl (hb hby at_191) rfl ?_
      show Steps p.tables e below (T77.setTop (mkF m 193 #[.val (.int p0), .val (.int p1), .val (.int p2), .val (.int p3), .val (.int bd), .val (.int sel), .val (.ref b2), .val (.int (2 : Int32)), .val (.int pk), .val (.int q), .val (.ref b65), .val (.int (own_inc q u1 (own_inc q t0 (0 : Int32))))] [(.int (2 : Int32))])) _
      refine XS.iconst X77.here hx rfl (hb hby at_193) ?_
      show Steps p.tables e below (T77.setTop (mkF m 194 #[.val (.int p0), .val (.int p1), .val (.int p2), .val (.int p3), .val (.int bd), .val (.int sel), .val (.ref b2), .val (.int (2 : Int32)), .val (.int pk), .val (.int q), .val (.ref b65), .val (.int (own_inc q u1 (own_inc q t0 (0 : Int32))))] [(.int (2 : Int32)), (.int (2 : Int32))])) _
      refine XS.icmpYes X77.here hx rfl (pc0 := 194) (pc' := 209) rfl (hb hby at_194) rfl (flt (by decide)).2.2.2 (by decide) (by decide) ?_
      show Steps p.tables e below (T77.setTop (mkF m 209 #[.val (.int p0), .val (.int p1), .val (.int p2), .val (.int p3), .val (.int bd), .val (.int sel), .val (.ref b2), .val (.int (2 : Int32)), .val (.int pk), .val (.int q), .val (.ref b65), .val (.int (own_inc q u1 (own_inc q t0 (0 : Int32))))] [])) _
      refine XS.iload X77.here hx rfl (hb hby at_209) rfl ?_
      show Steps p.tables e below (T77.setTop (mkF m 211 #[.val (.int p0), .val (.int p1), .val (.int p2), .val (.int p3), .val (.int bd), .val (.int sel), .val (.ref b2), .val (.int (2 : Int32)), .val (.int pk), .val (.int q), .val (.ref b65), .val (.int (own_inc q u1 (own_inc q t0 (0 : Int32))))] [(.int (2 : Int32))])) _
      refine XS.iconst X77.here hx rfl (hb hby at_211) ?_
      show Steps p.tables e below (T77.setTop (mkF m 212 #[.val (.int p0), .val (.int p1), .val (.int p2), .val (.int p3), .val (.int bd), .val (.int sel), .val (.ref b2), .val (.int (2 : Int32)), .val (.int pk), .val (.int q), .val (.ref b65), .val (.int (own_inc q u1 (own_inc q t0 (0 : Int32))))] [(.int (3 : Int32)), (.int (2 : Int32))])) _
      refine XS.icmpYes X77.here hx rfl (pc0 := 212) (pc' := 227) rfl (hb hby at_212) rfl (flt (by decide)).2.2.2 (by decide) (by decide) ?_
      show Steps p.tables e below (T77.setTop (mkF m 227 #[.val (.int p0), .val (.int p1), .val (.int p2), .val (.int p3), .val (.int bd), .val (.int sel), .val (.ref b2), .val (.int (2 : Int32)), .val (.int pk), .val (.int q), .val (.ref b65), .val (.int (own_inc q u1 (own_inc q t0 (0 : Int32))))] [])) _
      refine XS.aload X77.here hx rfl (hb hby at_227) rfl rfl ?_
      show Steps p.tables e below (T77.setTop (mkF m 229 #[.val (.int p0), .val (.int p1), .val (.int p2), .val (.int p3), .val (.int bd), .val (.int sel), .val (.ref b2), .val (.int (2 : Int32)), .val (.int pk), .val (.int q), .val (.ref b65), .val (.int (own_inc q u1 (own_inc q t0 (0 : Int32))))] [(.ref b65)])) _
      refine XS.iload X77.here hx rfl (hb hby at_229) rfl ?_
      show Steps p.tables e below (T77.setTop (mkF m 231 #[.val (.int p0), .val (.int p1), .val (.int p2), .val (.int p3), .val (.int bd), .val (.int sel), .val (.ref b2), .val (.int (2 : Int32)), .val (.int pk), .val (.int q), .val (.ref b65), .val (.int (own_inc q u1 (own_inc q t0 (0 : Int32))))] [(.int q), (.ref b65)])) _
      exact kt
    obtain ⟨_, _, ⟨T94, L94, k94, n94⟩, -, X94, ⟨Lc94, hQ94, l94, y94, z94⟩, st94⟩ := Jvm.LawKit.callS X77 hx (y := (⟨"com/example/lichen/lichen/analysis/Runs", "countUpTo", "([II)I"⟩ : MethodName)) hown (mvT hZ (hw _ (List.mem_of_getElem? (i := 6) rfl))) (mvT hZ (hw _ (List.mem_of_getElem? (i := 7) rfl))) (mvT hZ (hw _ (List.mem_of_getElem? (i := 8) rfl))) (mvT hZ (hw _ (List.mem_of_getElem? (i := 9) rfl))) (by decide) (backOf (W := 0) (rm2_2 l Z aa hw [] (b65) (q) _ t0 u1 h77 n0 Z77 VL77 hsort.1) hZ (hw _ (List.mem_of_getElem? (i := 9) rfl)) (hw _ (List.mem_of_getElem? (i := 8) rfl)) (by decide) (by decide)) (g := (mkF m 231 #[.val (.int p0), .val (.int p1), .val (.int p2), .val (.int p3), .val (.int bd), .val (.int sel), .val (.ref b2), .val (.int (2 : Int32)), .val (.int pk), .val (.int q), .val (.ref b65), .val (.int (own_inc q u1 (own_inc q t0 (0 : Int32))))] [(.int q), (.ref b65)])) rfl (by rw [hml]; rfl) (argsL := [(.ref b65), (.int q)]) (rest := []) (lenOf pd_P_IIQI rfl) rfl (by show 2 * 0 + _ ≤ _; exact Nat.le_of_eq rfl) (hb hby at_231) (fun _ _ => ⟨rfl, e77, (by decide : 2 + 0 ≤ _), (by decide : 6 + 0 ≤ _)⟩)
    dsimp only [Pt.U, Pt.locs, Pt.cells, Pt.slots] at X94 l94 y94 z94 st94 hQ94
    subst l94 y94 z94
    obtain ⟨rfl, N94q, e94⟩ := hQ94
    have N94 := Fr.app N77 N94q
    have K94 : ∀ t, Steps p.tables e below (T94.setTop (mkF m 234 #[.val (.int p0), .val (.int p1), .val (.int p2), .val (.int p3), .val (.int bd), .val (.int sel), .val (.ref b2), .val (.int (2 : Int32)), .val (.int pk), .val (.int q), .val (.ref b65), .val (.int (own_inc q u1 (own_inc q t0 (0 : Int32))))] [(.int (own_inc q u1 (own_inc q t0 (0 : Int32))))])) t → Steps p.tables e below G0 t := fun t kt => K93 t (st94 _ kt)
    have K95 : ∀ t, Steps p.tables e below (T94.setTop (mkF m 244 #[.val (.int p0), .val (.int p1), .val (.int p2), .val (.int p3), .val (.int bd), .val (.int sel), .val (.ref b2), .val (.int (2 : Int32)), .val (.int pk), .val (.int q), .val (.ref b65), .val (.int (own_inc q u1 (own_inc q t0 (0 : Int32))))] [(.int (1 : Int32))])) t → Steps p.tables e below G0 t := by
      intro t kt
      refine K94 t ?_
      refine XS.iload X94.here hx rfl (hb hby at_234) rfl ?_
      show Steps p.tables e below (T94.setTop (mkF m 236 #[.val (.int p0), .val (.int p1), .val (.int p2), .val (.int p3), .val (.int bd), .val (.int sel), .val (.ref b2), .val (.int (2 : Int32)), .val (.int pk), .val (.int q), .val (.ref b65), .val (.int (own_inc q u1 (own_inc q t0 (0 : Int32))))] [(.int (own_inc q u1 (own_inc q t0 (0 : Int32)))), (.int (own_inc q u1 (own_inc q t0 (0 : Int32))))])) _
      refine XS.icmpNo X94.here hx rfl (hb hby at_236) rfl (teq rfl).2 ?_
      show Steps p.tables e below (T94.setTop (mkF m 239 #[.val (.int p0), .val (.int p1), .val (.int p2), .val (.int p3), .val (.int bd), .val (.int sel), .val (.ref b2), .val (.int (2 : Int32)), .val (.int pk), .val (.int q), .val (.ref b65), .val (.int (own_inc q u1 (own_inc q t0 (0 : Int32))))] [])) _
      refine XS.iconst X94.here hx rfl (hb hby at_239) ?_
      show Steps p.tables e below (T94.setTop (mkF m 240 #[.val (.int p0), .val (.int p1), .val (.int p2), .val (.int p3), .val (.int bd), .val (.int sel), .val (.ref b2), .val (.int (2 : Int32)), .val (.int pk), .val (.int q), .val (.ref b65), .val (.int (own_inc q u1 (own_inc q t0 (0 : Int32))))] [(.int (1 : Int32))])) _
      refine XS.goto X94.here hx rfl (pc0 := 240) (pc' := 244) rfl (hb hby at_240) (by decide) (by decide) ?_
      show Steps p.tables e below (T94.setTop (mkF m 244 #[.val (.int p0), .val (.int p1), .val (.int p2), .val (.int p3), .val (.int bd), .val (.int sel), .val (.ref b2), .val (.int (2 : Int32)), .val (.int pk), .val (.int q), .val (.ref b65), .val (.int (own_inc q u1 (own_inc q t0 (0 : Int32))))] [(.int (1 : Int32))])) _
      exact kt
    obtain ⟨fs, hr, hrun, hended, hW, hsame⟩ := X94.leave (v := some (.int (1 : Int32))) (fun h => by rw [Bd.returns] at h; cases h)
    refine ⟨_, _, ?_, hrun, hended, _, _, rfl, ?_, ⟨_, rfl⟩, hW, hsame.mono (by decide) (by decide)⟩
    · rw [← hG0]
      refine K95 _ ?_
      exact retN X94 hx (t := .boolean) Bd.returns (by simp) (hb hby at_244) hr
    · show Q0 Z p0 p1 p2 p3 bd sel h0 n0 _ T94.heap _
      rw [e94]
      exact ⟨rfl, N94⟩
  ·
    rw [hn] at K28
    have K96 : ∀ t, Steps p.tables e below (T24.setTop (mkF m 94 #[.val (.int p0), .val (.int p1), .val (.int p2), .val (.int p3), .val (.int bd), .val (.int sel), .val (.ref b2), .val (.int (3 : Int32)), .val (.int pk), .val (.int q), .unset, .unset] [(.int (3 : Int32))])) t → Steps p.tables e below G0 t := by
      intro t kt
      refine K28 t ?_
      refine XS.iload X24.here hx rfl (hb hby at_92) rfl ?_
      show Steps p.tables e below (T24.setTop (mkF m 94 #[.val (.int p0), .val (.int p1), .val (.int p2), .val (.int p3), .val (.int bd), .val (.int sel), .val (.ref b2), .val (.int (3 : Int32)), .val (.int pk), .val (.int q), .unset, .unset] [(.int (3 : Int32))])) _
      exact kt
    obtain ⟨T97, h97, k97, X97, e97, E97, A97, st97⟩ := newP X24 hx hZ (hw _ (List.mem_of_getElem? (i := 0) rfl)) (rfl : T24.heap = _) (g := (mkF m 94 #[.val (.int p0), .val (.int p1), .val (.int p2), .val (.int p3), .val (.int bd), .val (.int sel), .val (.ref b2), .val (.int (3 : Int32)), .val (.int pk), .val (.int q), .unset, .unset] [(.int (3 : Int32))])) rfl (hb hby at_94) rfl (by decide) (cap := 3) (by decide) (by decide) (by decide) (by decide)
    obtain ⟨b97, g97⟩ : ∃ z, z = T24.heap.size := ⟨_, rfl⟩
    rw [← g97] at A97 st97
    have V97 := Arv.new A97 (by decide)
    have gn97 : n0 ≤ b97 := Nat.le_trans Z24 (Nat.le_of_eq g97.symm)
    have Z97 : n0 ≤ h97.size := Nat.le_trans Z24 E97.1
    have K97 : ∀ t, Steps p.tables e below (T97.setTop (mkF m 96 #[.val (.int p0), .val (.int p1), .val (.int p2), .val (.int p3), .val (.int bd), .val (.int sel), .val (.ref b2), .val (.int (3 : Int32)), .val (.int pk), .val (.int q), .unset, .unset] [(.ref b97)])) t → Steps p.tables e below G0 t := fun t kt => K96 t (st97 _ kt)
    have ne_b2_b97 : b2 ≠ b97 := Nat.ne_of_lt (Nat.lt_of_lt_of_le (VVx12).lt (Nat.le_of_eq g97.symm))
    have VL97 : Arv Z h97 b97 k97 .int (3 : Int32) [(.int (0 : Int32)), (.int (0 : Int32)), (.int (0 : Int32))] (.int (0 : Int32)) := V97.pad (pad_rep [] (.int (0 : Int32)) 3)
    have K98 : ∀ t, Steps p.tables e below (T97.setTop (mkF m 109 #[.val (.int p0), .val (.int p1), .val (.int p2), .val (.int p3), .val (.int bd), .val (.int sel), .val (.ref b2), .val (.int (3 : Int32)), .val (.int pk), .val (.int q), .val (.ref b97), .unset] [(.int (0 : Int32)), (.ref b2), (.int (0 : Int32)), (.ref b97)])) t → Steps p.tables e below G0 t := by
      intro t kt
      refine K97 t ?_
      refine XS.astore X97.here hx rfl (hb hby at_96) rfl rfl (l' := #[.val (.int p0), .val (.int p1), .val (.int p2), .val (.int p3), .val (.int bd), .val (.int sel), .val (.ref b2), .val (.int (3 : Int32)), .val (.int pk), .val (.int q), .val (.ref b97), .unset]) rfl ?_
      show Steps p.tables e below (T97.setTop (mkF m 98 #[.val (.int p0), .val (.int p1), .val (.int p2), .val (.int p3), .val (.int bd), .val (.int sel), .val (.ref b2), .val (.int (3 : Int32)), .val (.int pk), .val (.int q), .val (.ref b97), .unset] [])) _
      refine XS.iload X97.here hx rfl (hb hby at_98) rfl ?_
      show Steps p.tables e below (T97.setTop (mkF m 100 #[.val (.int p0), .val (.int p1), .val (.int p2), .val (.int p3), .val (.int bd), .val (.int sel), .val (.ref b2), .val (.int (3 : Int32)), .val (.int pk), .val (.int q), .val (.ref b97), .unset] [(.int (3 : Int32))])) _
      refine XS.ifNo X97.here hx rfl (hb hby at_100) rfl ((if0 _ _).trans (tlt (by decide)).2.2.2) ?_
      show Steps p.tables e below (T97.setTop (mkF m 103 #[.val (.int p0), .val (.int p1), .val (.int p2), .val (.int p3), .val (.int bd), .val (.int sel), .val (.ref b2), .val (.int (3 : Int32)), .val (.int pk), .val (.int q), .val (.ref b97), .unset] [])) _
      refine XS.aload X97.here hx rfl (hb hby at_103) rfl rfl ?_
      show Steps p.tables e below (T97.setTop (mkF m 105 #[.val (.int p0), .val (.int p1), .val (.int p2), .val (.int p3), .val (.int bd), .val (.int sel), .val (.ref b2), .val (.int (3 : Int32)), .val (.int pk), .val (.int q), .val (.ref b97), .unset] [(.ref b97)])) _
      refine XS.iconst X97.here hx rfl (hb hby at_105) ?_
      show Steps p.tables e below (T97.setTop (mkF m 106 #[.val (.int p0), .val (.int p1), .val (.int p2), .val (.int p3), .val (.int bd), .val (.int sel), .val (.ref b2), .val (.int (3 : Int32)), .val (.int pk), .val (.int q), .val (.ref b97), .unset] [(.int (0 : Int32)), (.ref b97)])) _
      refine XS.aload X97.here hx rfl (hb hby at_106) rfl rfl ?_
      show Steps p.tables e below (T97.setTop (mkF m 108 #[.val (.int p0), .val (.int p1), .val (.int p2), .val (.int p3), .val (.int bd), .val (.int sel), .val (.ref b2), .val (.int (3 : Int32)), .val (.int pk), .val (.int q), .val (.ref b97), .unset] [(.ref b2), (.int (0 : Int32)), (.ref b97)])) _
      refine XS.iconst X97.here hx rfl (hb hby at_108) ?_
      show Steps p.tables e below (T97.setTop (mkF m 109 #[.val (.int p0), .val (.int p1), .val (.int p2), .val (.int p3), .val (.int bd), .val (.int sel), .val (.ref b2), .val (.int (3 : Int32)), .val (.int pk), .val (.int q), .val (.ref b97), .unset] [(.int (0 : Int32)), (.ref b2), (.int (0 : Int32)), (.ref b97)])) _
      exact kt
    have f99 := (VVx12.ext E97)
    obtain ⟨cl100, Ar100, qq100, S100, M100, H100, GG100⟩ := id f99
    have hin100 : ¬ ((0 : Int32) < 0 ∨ cl100.slots.size ≤ ((0 : Int32)).toNatClampNeg) := inb_of S100 ⟨by decide, by decide⟩
    have hat100 : cl100.slots[((0 : Int32)).toNatClampNeg]? = some (.int t0) := Has.at H100 hin100 rfl
    have K101 : ∀ t, Steps p.tables e below (T97.setTop (mkF m 110 #[.val (.int p0), .val (.int p1), .val (.int p2), .val (.int p3), .val (.int bd), .val (.int sel), .val (.ref b2), .val (.int (3 : Int32)), .val (.int pk), .val (.int q), .val (.ref b97), .unset] [(.int t0), (.int (0 : Int32)), (.ref b97)])) t → Steps p.tables e below G0 t := by
      intro t kt
      refine K98 t ?_
      refine X97.iaload hx (j := (0 : Int32)) (v := (.int t0)) (by rw [e97]; exact (Ar100).1) (State.isArrayOf_alike hZ.alike (Ar100).2.1) (Ar100).2.2 hin100 hat100 (g := (mkF m 109 #[.val (.int p0), .val (.int p1), .val (.int p2), .val (.int p3), .val (.int bd), .val (.int sel), .val (.ref b2), .val (.int (3 : Int32)), .val (.int pk), .val (.int q), .val (.ref b97), .unset] [(.int (0 : Int32)), (.ref b2), (.int (0 : Int32)), (.ref b97)])) rfl rfl (hb hby at_109) _ ?_
      show Steps p.tables e below (T97.setTop (mkF m 110 #[.val (.int p0), .val (.int p1), .val (.int p2), .val (.int p3), .val (.int bd), .val (.int sel), .val (.ref b2), .val (.int (3 : Int32)), .val (.int pk), .val (.int q), .val (.ref b97), .unset] [(.int t0), (.int (0 : Int32)), (.ref b97)])) _
      exact kt
    obtain ⟨cl102, Ar102, qq102, S102, M102, H102, GG102⟩ := id VL97
    have hin102 : ¬ ((0 : Int32) < 0 ∨ cl102.slots.size ≤ ((0 : Int32)).toNatClampNeg) := inb_of S102 ⟨by decide, by decide⟩
    obtain ⟨T103, h103, X103, e103, W103, st103⟩ := stI X97 hx hZ e97 Ar102 (j := (0 : Int32)) hin102 (g := (mkF m 110 #[.val (.int p0), .val (.int p1), .val (.int p2), .val (.int p3), .val (.int bd), .val (.int sel), .val (.ref b2), .val (.int (3 : Int32)), .val (.int pk), .val (.int q), .val (.ref b97), .unset] [(.int t0), (.int (0 : Int32)), (.ref b97)])) rfl rfl (hb hby at_110)
    have K103 : ∀ t, Steps p.tables e below (T103.setTop (mkF m 111 #[.val (.int p0), .val (.int p1), .val (.int p2), .val (.int p3), .val (.int bd), .val (.int sel), .val (.ref b2), .val (.int (3 : Int32)), .val (.int pk), .val (.int q), .val (.ref b97), .unset] [])) t → Steps p.tables e below G0 t := fun t kt => K101 t (st103 _ kt)
    have Z103 : n0 ≤ h103.size := Nat.le_trans Z97 (Keep.of_wr W103).1
    have VL103 : Arv Z h103 b97 k97 .int (3 : Int32) [(.int t0), (.int (0 : Int32)), (.int (0 : Int32))] (.int (0 : Int32)) := Arv.set Ar102 qq102 S102 M102 H102 GG102 rfl W103 0 rfl (Nat.le_of_ble_eq_true rfl)
    have N103 := Fr.snoc X103 N24 gn97
    have K104 : ∀ t, Steps p.tables e below (T103.setTop (mkF m 123 #[.val (.int p0), .val (.int p1), .val (.int p2), .val (.int p3), .val (.int bd), .val (.int sel), .val (.ref b2), .val (.int (3 : Int32)), .val (.int pk), .val (.int q), .val (.ref b97), .unset] [(.int (1 : Int32)), (.ref b2), (.int (1 : Int32)), (.ref b97)])) t → Steps p.tables e below G0 t := by
      intro t kt
      refine K103 t ?_
      refine XS.iload X103.here hx rfl (hb hby at_111) rfl ?_
      show Steps p.tables e below (T103.setTop (mkF m 113 #[.val (.int p0), .val (.int p1), .val (.int p2), .val (.int p3), .val (.int bd), .val (.int sel), .val (.ref b2), .val (.int (3 : Int32)), .val (.int pk), .val (.int q), .val (.ref b97), .unset] [(.int (3 : Int32))])) _
      refine XS.iconst X103.here hx rfl (hb hby at_113) ?_
      show Steps p.tables e below (T103.setTop (mkF m 114 #[.val (.int p0), .val (.int p1), .val (.int p2), .val (.int p3), .val (.int bd), .val (.int sel), .val (.ref b2), .val (.int (3 : Int32)), .val (.int pk), .val (.int q), .val (.ref b97), .unset] [(.int (1 : Int32)), (.int (3 : Int32))])) _
      refine XS.icmpNo X103.here hx rfl (hb hby at_114) rfl (tlt (by decide)).2.2.2 ?_
      show Steps p.tables e below (T103.setTop (mkF m 117 #[.val (.int p0), .val (.int p1), .val (.int p2), .val (.int p3), .val (.int bd), .val (.int sel), .val (.ref b2), .val (.int (3 : Int32)), .val (.int pk), .val (.int q), .val (.ref b97), .unset] [])) _
      refine XS.aload X103.here hx rfl (hb hby at_117) rfl rfl ?_
      show Steps p.tables e below (T103.setTop (mkF m 119 #[.val (.int p0), .val (.int p1), .val (.int p2), .val (.int p3), .val (.int bd), .val (.int sel), .val (.ref b2), .val (.int (3 : Int32)), .val (.int pk), .val (.int q), .val (.ref b97), .unset] [(.ref b97)])) _
      refine XS.iconst X103.here hx rfl (hb hby at_119) ?_
      show Steps p.tables e below (T103.setTop (mkF m 120 #[.val (.int p0), .val (.int p1), .val (.int p2), .val (.int p3), .val (.int bd), .val (.int sel), .val (.ref b2), .val (.int (3 : Int32)), .val (.int pk), .val (.int q), .val (.ref b97), .unset] [(.int (1 : Int32)), (.ref b97)])) _
      refine XS.aload X103.here hx rfl (hb hby at_120) rfl rfl ?_
      show Steps p.tables e below (T103.setTop (mkF m 122 #[.val (.int p0), .val (.int p1), .val (.int p2), .val (.int p3), .val (.int bd), .val (.int sel), .val (.ref b2), .val (.int (3 : Int32)), .val (.int pk), .val (.int q), .val (.ref b97), .unset] [(.ref b2), (.int (1 : Int32)), (.ref b97)])) _
      refine XS.iconst X103.here hx rfl (hb hby at_122) ?_
      show Steps p.tables e below (T103.setTop (mkF m 123 #[.val (.int p0), .val (.int p1), .val (.int p2), .val (.int p3), .val (.int bd), .val (.int sel), .val (.ref b2), .val (.int (3 : Int32)), .val (.int pk), .val (.int q), .val (.ref b97), .unset] [(.int (1 : Int32)), (.ref b2), (.int (1 : Int32)), (.ref b97)])) _
      exact kt
    have f105 := (f99.other W103 ne_b2_b97)
    obtain ⟨cl106, Ar106, qq106, S106, M106, H106, GG106⟩ := id f105
    have hin106 : ¬ ((1 : Int32) < 0 ∨ cl106.slots.size ≤ ((1 : Int32)).toNatClampNeg) := inb_of S106 ⟨by decide, by decide⟩
    have hat106 : cl106.slots[((1 : Int32)).toNatClampNeg]? = some (.int u1) := Has.at H106 hin106 rfl
    have K107 : ∀ t, Steps p.tables e below (T103.setTop (mkF m 124 #[.val (.int p0), .val (.int p1), .val (.int p2), .val (.int p3), .val (.int bd), .val (.int sel), .val (.ref b2), .val (.int (3 : Int32)), .val (.int pk), .val (.int q), .val (.ref b97), .unset] [(.int u1), (.int (1 : Int32)), (.ref b97)])) t → Steps p.tables e below G0 t := by
      intro t kt
      refine K104 t ?_
      refine X103.iaload hx (j := (1 : Int32)) (v := (.int u1)) (by rw [e103]; exact (Ar106).1) (State.isArrayOf_alike hZ.alike (Ar106).2.1) (Ar106).2.2 hin106 hat106 (g := (mkF m 123 #[.val (.int p0), .val (.int p1), .val (.int p2), .val (.int p3), .val (.int bd), .val (.int sel), .val (.ref b2), .val (.int (3 : Int32)), .val (.int pk), .val (.int q), .val (.ref b97), .unset] [(.int (1 : Int32)), (.ref b2), (.int (1 : Int32)), (.ref b97)])) rfl rfl (hb hby at_123) _ ?_
      show Steps p.tables e below (T103.setTop (mkF m 124 #[.val (.int p0), .val (.int p1), .val (.int p2), .val (.int p3), .val (.int bd), .val (.int sel), .val (.ref b2), .val (.int (3 : Int32)), .val (.int pk), .val (.int q), .val (.ref b97), .unset] [(.int u1), (.int (1 : Int32)), (.ref b97)])) _
      exact kt
    obtain ⟨cl108, Ar108, qq108, S108, M108, H108, GG108⟩ := id VL103
    have hin108 : ¬ ((1 : Int32) < 0 ∨ cl108.slots.size ≤ ((1 : Int32)).toNatClampNeg) := inb_of S108 ⟨by decide, by decide⟩
    obtain ⟨T109, h109, X109, e109, W109, st109⟩ := stI X103 hx hZ e103 Ar108 (j := (1 : Int32)) hin108 (g := (mkF m 124 #[.val (.int p0), .val (.int p1), .val (.int p2), .val (.int p3), .val (.int bd), .val (.int sel), .val (.ref b2), .val (.int (3 : Int32)), .val (.int pk), .val (.int q), .val (.ref b97), .unset] [(.int u1), (.int (1 : Int32)), (.ref b97)])) rfl rfl (hb hby at_124)
    have K109 : ∀ t, Steps p.tables e below (T109.setTop (mkF m 125 #[.val (.int p0), .val (.int p1), .val (.int p2), .val (.int p3), .val (.int bd), .val (.int sel), .val (.ref b2), .val (.int (3 : Int32)), .val (.int pk), .val (.int q), .val (.ref b97), .unset] [])) t → Steps p.tables e below G0 t := fun t kt => K107 t (st109 _ kt)
    have Z109 : n0 ≤ h109.size := Nat.le_trans Z103 (Keep.of_wr W109).1
    have VL109 : Arv Z h109 b97 k97 .int (3 : Int32) [(.int t0), (.int u1), (.int (0 : Int32))] (.int (0 : Int32)) := Arv.set Ar108 qq108 S108 M108 H108 GG108 rfl W109 1 rfl (Nat.le_of_ble_eq_true rfl)
    have N109 := Fr.snoc X109 N103 gn97
    have K110 : ∀ t, Steps p.tables e below (T109.setTop (mkF m 137 #[.val (.int p0), .val (.int p1), .val (.int p2), .val (.int p3), .val (.int bd), .val (.int sel), .val (.ref b2), .val (.int (3 : Int32)), .val (.int pk), .val (.int q), .val (.ref b97), .unset] [(.int (2 : Int32)), (.ref b2), (.int (2 : Int32)), (.ref b97)])) t → Steps p.tables e below G0 t := by
      intro t kt
      refine K109 t ?_
      refine XS.iload X109.here hx rfl (hb hby at_125) rfl ?_
      show Steps p.tables e below (T109.setTop (mkF m 127 #[.val (.int p0), .val (.int p1), .val (.int p2), .val (.int p3), .val (.int bd), .val (.int sel), .val (.ref b2), .val (.int (3 : Int32)), .val (.int pk), .val (.int q), .val (.ref b97), .unset] [(.int (3 : Int32))])) _
      refine XS.iconst X109.here hx rfl (hb hby at_127) ?_
      show Steps p.tables e below (T109.setTop (mkF m 128 #[.val (.int p0), .val (.int p1), .val (.int p2), .val (.int p3), .val (.int bd), .val (.int sel), .val (.ref b2), .val (.int (3 : Int32)), .val (.int pk), .val (.int q), .val (.ref b97), .unset] [(.int (2 : Int32)), (.int (3 : Int32))])) _
      refine XS.icmpNo X109.here hx rfl (hb hby at_128) rfl (tlt (by decide)).2.2.2 ?_
      show Steps p.tables e below (T109.setTop (mkF m 131 #[.val (.int p0), .val (.int p1), .val (.int p2), .val (.int p3), .val (.int bd), .val (.int sel), .val (.ref b2), .val (.int (3 : Int32)), .val (.int pk), .val (.int q), .val (.ref b97), .unset] [])) _
      refine XS.aload X109.here hx rfl (hb hby at_131) rfl rfl ?_
      show Steps p.tables e below (T109.setTop (mkF m 133 #[.val (.int p0), .val (.int p1), .val (.int p2), .val (.int p3), .val (.int bd), .val (.int sel), .val (.ref b2), .val (.int (3 : Int32)), .val (.int pk), .val (.int q), .val (.ref b97), .unset] [(.ref b97)])) _
      refine XS.iconst X109.here hx rfl (hb hby at_133) ?_
      show Steps p.tables e below (T109.setTop (mkF m 134 #[.val (.int p0), .val (.int p1), .val (.int p2), .val (.int p3), .val (.int bd), .val (.int sel), .val (.ref b2), .val (.int (3 : Int32)), .val (.int pk), .val (.int q), .val (.ref b97), .unset] [(.int (2 : Int32)), (.ref b97)])) _
      refine XS.aload X109.here hx rfl (hb hby at_134) rfl rfl ?_
      show Steps p.tables e below (T109.setTop (mkF m 136 #[.val (.int p0), .val (.int p1), .val (.int p2), .val (.int p3), .val (.int bd), .val (.int sel), .val (.ref b2), .val (.int (3 : Int32)), .val (.int pk), .val (.int q), .val (.ref b97), .unset] [(.ref b2), (.int (2 : Int32)), (.ref b97)])) _
      refine XS.iconst X109.here hx rfl (hb hby at_136) ?_
      show Steps p.tables e below (T109.setTop (mkF m 137 #[.val (.int p0), .val (.int p1), .val (.int p2), .val (.int p3), .val (.int bd), .val (.int sel), .val (.ref b2), .val (.int (3 : Int32)), .val (.int pk), .val (.int q), .val (.ref b97), .unset] [(.int (2 : Int32)), (.ref b2), (.int (2 : Int32)), (.ref b97)])) _
      exact kt
    have f111 := (f105.other W109 ne_b2_b97)
    obtain ⟨cl112, Ar112, qq112, S112, M112, H112, GG112⟩ := id f111
    have hin112 : ¬ ((2 : Int32) < 0 ∨ cl112.slots.size ≤ ((2 : Int32)).toNatClampNeg) := inb_of S112 ⟨by decide, by decide⟩
    have hat112 : cl112.slots[((2 : Int32)).toNatClampNeg]? = some (.int u2) := Has.at H112 hin112 rfl
    have K113 : ∀ t, Steps p.tables e below (T109.setTop (mkF m 138 #[.val (.int p0), .val (.int p1), .val (.int p2), .val (.int p3), .val (.int bd), .val (.int sel), .val (.ref b2), .val (.int (3 : Int32)), .val (.int pk), .val (.int q), .val (.ref b97), .unset] [(.int u2), (.int (2 : Int32)), (.ref b97)])) t → Steps p.tables e below G0 t := by
      intro t kt
      refine K110 t ?_
      refine X109.iaload hx (j := (2 : Int32)) (v := (.int u2)) (by rw [e109]; exact (Ar112).1) (State.isArrayOf_alike hZ.alike (Ar112).2.1) (Ar112).2.2 hin112 hat112 (g := (mkF m 137 #[.val (.int p0), .val (.int p1), .val (.int p2), .val (.int p3), .val (.int bd), .val (.int sel), .val (.ref b2), .val (.int (3 : Int32)), .val (.int pk), .val (.int q), .val (.ref b97), .unset] [(.int (2 : Int32)), (.ref b2), (.int (2 : Int32)), (.ref b97)])) rfl rfl (hb hby at_137) _ ?_
      show Steps p.tables e below (T109.setTop (mkF m 138 #[.val (.int p0), .val (.int p1), .val (.int p2), .val (.int p3), .val (.int bd), .val (.int sel), .val (.ref b2), .val (.int (3 : Int32)), .val (.int pk), .val (.int q), .val (.ref b97), .unset] [(.int u2), (.int (2 : Int32)), (.ref b97)])) _
      exact kt
    obtain ⟨cl114, Ar114, qq114, S114, M114, H114, GG114⟩ := id VL109
    have hin114 : ¬ ((2 : Int32) < 0 ∨ cl114.slots.size ≤ ((2 : Int32)).toNatClampNeg) := inb_of S114 ⟨by decide, by decide⟩
    obtain ⟨T115, h115, X115, e115, W115, st115⟩ := stI X109 hx hZ e109 Ar114 (j := (2 : Int32)) hin114 (g := (mkF m 138 #[.val (.int p0), .val (.int p1), .val (.int p2), .val (.int p3), .val (.int bd), .val (.int sel), .val (.ref b2), .val (.int (3 : Int32)), .val (.int pk), .val (.int q), .val (.ref b97), .unset] [(.int u2), (.int (2 : Int32)), (.ref b97)])) rfl rfl (hb hby at_138)
    have K115 : ∀ t, Steps p.tables e below (T115.setTop (mkF m 139 #[.val (.int p0), .val (.int p1), .val (.int p2), .val (.int p3), .val (.int bd), .val (.int sel), .val (.ref b2), .val (.int (3 : Int32)), .val (.int pk), .val (.int q), .val (.ref b97), .unset] [])) t → Steps p.tables e below G0 t := fun t kt => K113 t (st115 _ kt)
    have Z115 : n0 ≤ h115.size := Nat.le_trans Z109 (Keep.of_wr W115).1
    have VL115 : Arv Z h115 b97 k97 .int (3 : Int32) [(.int t0), (.int u1), (.int u2)] (.int (0 : Int32)) := Arv.set Ar114 qq114 S114 M114 H114 GG114 rfl W115 2 rfl (Nat.le_of_ble_eq_true rfl)
    have N115 := Fr.snoc X115 N109 gn97
    have K116 : ∀ t, Steps p.tables e below (T115.setTop (mkF m 164 #[.val (.int p0), .val (.int p1), .val (.int p2), .val (.int p3), .val (.int bd), .val (.int sel), .val (.ref b2), .val (.int (3 : Int32)), .val (.int pk), .val (.int q), .val (.ref b97), .val (.int (0 : Int32))] [(.int (0 : Int32)), (.ref b2)])) t → Steps p.tables e below G0 t := by
      intro t kt
      refine K115 t ?_
      refine XS.iload X115.here hx rfl (hb hby at_139) rfl ?_
      show Steps p.tables e below (T115.setTop (mkF m 141 #[.val (.int p0), .val (.int p1), .val (.int p2), .val (.int p3), .val (.int bd), .val (.int sel), .val (.ref b2), .val (.int (3 : Int32)), .val (.int pk), .val (.int q), .val (.ref b97), .unset] [(.int (3 : Int32))])) _
      refine XS.iconst X115.here hx rfl (hb hby at_141) ?_
      show Steps p.tables e below (T115.setTop (mkF m 142 #[.val (.int p0), .val (.int p1), .val (.int p2), .val (.int p3), .val (.int bd), .val (.int sel), .val (.ref b2), .val (.int (3 : Int32)), .val (.int pk), .val (.int q), .val (.ref b97), .unset] [(.int (3 : Int32)), (.int (3 : Int32))])) _
      refine XS.icmpYes X115.here hx rfl (pc0 := 142) (pc' := 153) rfl (hb hby at_142) rfl (flt (by decide)).2.2.2 (by decide) (by decide) ?_
      show Steps p.tables e below (T115.setTop (mkF m 153 #[.val (.int p0), .val (.int p1), .val (.int p2), .val (.int p3), .val (.int bd), .val (.int sel), .val (.ref b2), .val (.int (3 : Int32)), .val (.int pk), .val (.int q), .val (.ref b97), .unset] [])) _
      refine XS.iconst X115.here hx rfl (hb hby at_153) ?_
      show Steps p.tables e below (T115.setTop (mkF m 154 #[.val (.int p0), .val (.int p1), .val (.int p2), .val (.int p3), .val (.int bd), .val (.int sel), .val (.ref b2), .val (.int (3 : Int32)), .val (.int pk), .val (.int q), .val (.ref b97), .unset] [(.int (0 : Int32))])) _
      refine XS.istore X115.here hx rfl (hb hby at_154) rfl (l' := #[.val (.int p0), .val (.int p1), .val (.int p2), .val (.int p3), .val (.int bd), .val (.int sel), .val (.ref b2), .val (.int (3 : Int32)), .val (.int pk), .val (.int q), .val (.ref b97), .val (.int (0 : Int32))]) rfl ?_
      show Steps p.tables e below (T115.setTop (mkF m 156 #[.val (.int p0), .val (.int p1), .val (.int p2), .val (.int p3), .val (.int bd), .val (.int sel), .val (.ref b2), .val (.int (3 : Int32)), .val (.int pk), .val (.int q), .val (.ref b97), .val (.int (0 : Int32))] [])) _
      refine XS.iload X115.here hx rfl (hb hby at_156) rfl ?_
      show Steps p.tables e below (T115.setTop (mkF m 158 #[.val (.int p0), .val (.int p1), .val (.int p2), .val (.int p3), .val (.int bd), .val (.int sel), .val (.ref b2), .val (.int (3 : Int32)), .val (.int pk), .val (.int q), .val (.ref b97), .val (.int (0 : Int32))] [(.int (3 : Int32))])) _
      refine XS.ifNo X115.here hx rfl (hb hby at_158) rfl ((if0 _ _).trans (tlt (by decide)).2.2.2) ?_
      show Steps p.tables e below (T115.setTop (mkF m 161 #[.val (.int p0), .val (.int p1), .val (.int p2), .val (.int p3), .val (.int bd), .val (.int sel), .val (.ref b2), .val (.int (3 : Int32)), .val (.int pk), .val (.int q), .val (.ref b97), .val (.int (0 : Int32))] [])) _
      refine XS.aload X115.here hx rfl (hb hby at_161) rfl rfl ?_
      show Steps p.tables e below (T115.setTop (mkF m 163 #[.val (.int p0), .val (.int p1), .val (.int p2), .val (.int p3), .val (.int bd), .val (.int sel), .val (.ref b2), .val (.int (3 : Int32)), .val (.int pk), .val (.int q), .val (.ref b97), .val (.int (0 : Int32))] [(.ref b2)])) _
      refine XS.iconst X115.here hx rfl (hb hby at_163) ?_
      show Steps p.tables e below (T115.setTop (mkF m 164 #[.val (.int p0), .val (.int p1), .val (.int p2), .val (.int p3), .val (.int bd), .val (.int sel), .val (.ref b2), .val (.int (3 : Int32)), .val (.int pk), .val (.int q), .val (.ref b97), .val (.int (0 : Int32))] [(.int (0 : Int32)), (.ref b2)])) _
      exact kt
    have f117 := (f111.other W115 ne_b2_b97)
    obtain ⟨cl118, Ar118, qq118, S118, M118, H118, GG118⟩ := id f117
    have hin118 : ¬ ((0 : Int32) < 0 ∨ cl118.slots.size ≤ ((0 : Int32)).toNatClampNeg) := inb_of S118 ⟨by decide, by decide⟩
    have hat118 : cl118.slots[((0 : Int32)).toNatClampNeg]? = some (.int t0) := Has.at H118 hin118 rfl
    have K119 : ∀ t, Steps p.tables e below (T115.setTop (mkF m 167 #[.val (.int p0), .val (.int p1), .val (.int p2), .val (.int p3), .val (.int bd), .val (.int sel), .val (.ref b2), .val (.int (3 : Int32)), .val (.int pk), .val (.int q), .val (.ref b97), .val (.int (0 : Int32))] [(.int q), (.int t0)])) t → Steps p.tables e below G0 t := by
      intro t kt
      refine K116 t ?_
      refine X115.iaload hx (j := (0 : Int32)) (v := (.int t0)) (by rw [e115]; exact (Ar118).1) (State.isArrayOf_alike hZ.alike (Ar118).2.1) (Ar118).2.2 hin118 hat118 (g := (mkF m 164 #[.val (.int p0), .val (.int p1), .val (.int p2), .val (.int p3), .val (.int bd), .val (.int sel), .val (.ref b2), .val (.int (3 : Int32)), .val (.int pk), .val (.int q), .val (.ref b97), .val (.int (0 : Int32))] [(.int (0 : Int32)), (.ref b2)])) rfl rfl (hb hby at_164) _ ?_
      show Steps p.tables e below (T115.setTop (mkF m 165 #[.val (.int p0), .val (.int p1), .val (.int p2), .val (.int p3), .val (.int bd), .val (.int sel), .val (.ref b2), .val (.int (3 : Int32)), .val (.int pk), .val (.int q), .val (.ref b97), .val (.int (0 : Int32))] [(.int t0)])) _
      refine XS.iload X115.here hx rfl (hb hby at_165) rfl ?_
      show Steps p.tables e below (T115.setTop (mkF m 167 #[.val (.int p0), .val (.int p1), .val (.int p2), .val (.int p3), .val (.int bd), .val (.int sel), .val (.ref b2), .val (.int (3 : Int32)), .val (.int pk), .val (.int q), .val (.ref b97), .val (.int (0 : Int32))] [(.int q), (.int t0)])) _
      exact kt
    have K120 : ∀ t, Steps p.tables e below (T115.setTop (mkF m 173 #[.val (.int p0), .val (.int p1), .val (.int p2), .val (.int p3), .val (.int bd), .val (.int sel), .val (.ref b2), .val (.int (3 : Int32)), .val (.int pk), .val (.int q), .val (.ref b97), .val (.int (own_inc q t0 (0 : Int32)))] [])) t → Steps p.tables e below G0 t := by
      by_cases hc121 : q < t0
      ·
        have K122 : ∀ t, Steps p.tables e below (T115.setTop (mkF m 173 #[.val (.int p0), .val (.int p1), .val (.int p2), .val (.int p3), .val (.int bd), .val (.int sel), .val (.ref b2), .val (.int (3 : Int32)), .val (.int pk), .val (.int q), .val (.ref b97), .val (.int (0 : Int32))] [])) t → Steps p.tables e below G0 t := by
          intro t kt
          refine K119 t ?_
          refine XS.icmpYes X115.here hx rfl (pc0 := 167) (pc' := 173) rfl (hb hby at_167) rfl (tlt hc121).2.2.1 (by decide) (by decide) ?_
          show Steps p.tables e below (T115.setTop (mkF m 173 #[.val (.int p0), .val (.int p1), .val (.int p2), .val (.int p3), .val (.int bd), .val (.int sel), .val (.ref b2), .val (.int (3 : Int32)), .val (.int pk), .val (.int q), .val (.ref b97), .val (.int (0 : Int32))] [])) _
          exact kt
        rw [own_inc, if_pos hc121]
        exact K122
      ·
        have K123 : ∀ t, Steps p.tables e below (T115.setTop (mkF m 173 #[.val (.int p0), .val (.int p1), .val (.int p2), .val (.int p3), .val (.int bd), .val (.int sel), .val (.ref b2), .val (.int (3 : Int32)), .val (.int pk), .val (.int q), .val (.ref b97), .val (.int ((0 : Int32) + (1 : Int32)))] [])) t → Steps p.tables e below G0 t := by
          intro t kt
          refine K119 t ?_
          refine XS.icmpNo X115.here hx rfl (hb hby at_167) rfl (flt hc121).2.2.1 ?_
          show Steps p.tables e below (T115.setTop (mkF m 170 #[.val (.int p0), .val (.int p1), .val (.int p2), .val (.int p3), .val (.int bd), .val (.int sel), .val (.ref b2), .val (.int (3 : Int32)), .val (.int pk), .val (.int q), .val (.ref b97), .val (.int (0 : Int32))] [])) _
          refine XS.iinc X115.here hx rfl (hb hby at_170) rfl (l' := #[.val (.int p0), .val (.int p1), .val (.int p2), .val (.int p3), .val (.int bd), .val (.int sel), .val (.ref b2), .val (.int (3 : Int32)), .val (.int pk), .val (.int q), .val (.ref b97), .val (.int ((0 : Int32) + (1 : Int32)))]) rfl ?_
          show Steps p.tables e below (T115.setTop (mkF m 173 #[.val (.int p0), .val (.int p1), .val (.int p2), .val (.int p3), .val (.int bd), .val (.int sel), .val (.ref b2), .val (.int (3 : Int32)), .val (.int pk), .val (.int q), .val (.ref b97), .val (.int ((0 : Int32) + (1 : Int32)))] [])) _
          exact kt
        rw [own_inc, if_neg hc121]
        exact K123
    have K124 : ∀ t, Steps p.tables e below (T115.setTop (mkF m 182 #[.val (.int p0), .val (.int p1), .val (.int p2), .val (.int p3), .val (.int bd), .val (.int sel), .val (.ref b2), .val (.int (3 : Int32)), .val (.int pk), .val (.int q), .val (.ref b97), .val (.int (own_inc q t0 (0 : Int32)))] [(.int (1 : Int32)), (.ref b2)])) t → Steps p.tables e below G0 t := by
      intro t kt
      refine K120 t ?_
      refine XS.iload X115.here hx rfl (hb hby at_173) rfl ?_
      show Steps p.tables e below (T115.setTop (mkF m 175 #[.val (.int p0), .val (.int p1), .val (.int p2), .val (.int p3), .val (.int bd), .val (.int sel), .val (.ref b2), .val (.int (3 : Int32)), .val (.int pk), .val (.int q), .val (.ref b97), .val (.int (own_inc q t0 (0 : Int32)))] [(.int (3 : Int32))])) _
      refine XS.iconst X115.here hx rfl (hb hby at_175) ?_
      show Steps p.tables e below (T115.setTop (mkF m 176 #[.val (.int p0), .val (.int p1), .val (.int p2), .val (.int p3), .val (.int bd), .val (.int sel), .val (.ref b2), .val (.int (3 : Int32)), .val (.int pk), .val (.int q), .val (.ref b97), .val (.int (own_inc q t0 (0 : Int32)))] [(.int (1 : Int32)), (.int (3 : Int32))])) _
      refine XS.icmpNo X115.here hx rfl (hb hby at_176) rfl (tlt (by decide)).2.2.2 ?_
      show Steps p.tables e below (T115.setTop (mkF m 179 #[.val (.int p0), .val (.int p1), .val (.int p2), .val (.int p3), .val (.int bd), .val (.int sel), .val (.ref b2), .val (.int (3 : Int32)), .val (.int pk), .val (.int q), .val (.ref b97), .val (.int (own_inc q t0 (0 : Int32)))] [])) _
      refine XS.aload X115.here hx rfl (hb hby at_179) rfl rfl ?_
      show Steps p.tables e below (T115.setTop (mkF m 181 #[.val (.int p0), .val (.int p1), .val (.int p2), .val (.int p3), .val (.int bd), .val (.int sel), .val (.ref b2), .val (.int (3 : Int32)), .val (.int pk), .val (.int q), .val (.ref b97), .val (.int (own_inc q t0 (0 : Int32)))] [(.ref b2)])) _
      refine XS.iconst X115.here hx rfl (hb hby at_181) ?_
      show Steps p.tables e below (T115.setTop (mkF m 182 #[.val (.int p0), .val (.int p1), .val (.int p2), .val (.int p3), .val (.int bd), .val (.int sel), .val (.ref b2), .val (.int (3 : Int32)), .val (.int pk), .val (.int q), .val (.ref b97), .val (.int (own_inc q t0 (0 : Int32)))] [(.int (1 : Int32)), (.ref b2)])) _
      exact kt
    obtain ⟨cl125, Ar125, qq125, S125, M125, H125, GG125⟩ := id f117
    have hin125 : ¬ ((1 : Int32) < 0 ∨ cl125.slots.size ≤ ((1 : Int32)).toNatClampNeg) := inb_of S125 ⟨by decide, by decide⟩
    have hat125 : cl125.slots[((1 : Int32)).toNatClampNeg]? = some (.int u1) := Has.at H125 hin125 rfl
    have K126 : ∀ t, Steps p.tables e below (T115.setTop (mkF m 185 #[.val (.int p0), .val (.int p1), .val (.int p2), .val (.int p3), .val (.int bd), .val (.int sel), .val (.ref b2), .val (.int (3 : Int32)), .val (.int pk), .val (.int q), .val (.ref b97), .val (.int (own_inc q t0 (0 : Int32)))] [(.int q), (.int u1)])) t → Steps p.tables e below G0 t := by
      intro t kt
      refine K124 t ?_
      refine X115.iaload hx (j := (1 : Int32)) (v := (.int u1)) (by rw [e115]; exact (Ar125).1) (State.isArrayOf_alike hZ.alike (Ar125).2.1) (Ar125).2.2 hin125 hat125 (g := (mkF m 182 #[.val (.int p0), .val (.int p1), .val (.int p2), .val (.int p3), .val (.int bd), .val (.int sel), .val (.ref b2), .val (.int (3 : Int32)), .val (.int pk), .val (.int q), .val (.ref b97), .val (.int (own_inc q t0 (0 : Int32)))] [(.int (1 : Int32)), (.ref b2)])) rfl rfl (hb hby at_182) _ ?_
      show Steps p.tables e below (T115.setTop (mkF m 183 #[.val (.int p0), .val (.int p1), .val (.int p2), .val (.int p3), .val (.int bd), .val (.int sel), .val (.ref b2), .val (.int (3 : Int32)), .val (.int pk), .val (.int q), .val (.ref b97), .val (.int (own_inc q t0 (0 : Int32)))] [(.int u1)])) _
      refine XS.iload X115.here hx rfl (hb hby at_183) rfl ?_
      show Steps p.tables e below (T115.setTop (mkF m 185 #[.val (.int p0), .val (.int p1), .val (.int p2), .val (.int p3), .val (.int bd), .val (.int sel), .val (.ref b2), .val (.int (3 : Int32)), .val (.int pk), .val (.int q), .val (.ref b97), .val (.int (own_inc q t0 (0 : Int32)))] [(.int q), (.int u1)])) _
      exact kt
    have K127 : ∀ t, Steps p.tables e below (T115.setTop (mkF m 191 #[.val (.int p0), .val (.int p1), .val (.int p2), .val (.int p3), .val (.int bd), .val (.int sel), .val (.ref b2), .val (.int (3 : Int32)), .val (.int pk), .val (.int q), .val (.ref b97), .val (.int (own_inc q u1 (own_inc q t0 (0 : Int32))))] [])) t → Steps p.tables e below G0 t := by
      by_cases hc128 : q < u1
      ·
        have K129 : ∀ t, Steps p.tables e below (T115.setTop (mkF m 191 #[.val (.int p0), .val (.int p1), .val (.int p2), .val (.int p3), .val (.int bd), .val (.int sel), .val (.ref b2), .val (.int (3 : Int32)), .val (.int pk), .val (.int q), .val (.ref b97), .val (.int (own_inc q t0 (0 : Int32)))] [])) t → Steps p.tables e below G0 t := by
          intro t kt
          refine K126 t ?_
          refine XS.icmpYes X115.here hx rfl (pc0 := 185) (pc' := 191) rfl (hb hby at_185) rfl (tlt hc128).2.2.1 (by decide) (by decide) ?_
          show Steps p.tables e below (T115.setTop (mkF m 191 #[.val (.int p0), .val (.int p1), .val (.int p2), .val (.int p3), .val (.int bd), .val (.int sel), .val (.ref b2), .val (.int (3 : Int32)), .val (.int pk), .val (.int q), .val (.ref b97), .val (.int (own_inc q t0 (0 : Int32)))] [])) _
          exact kt
        rw [own_inc, if_pos hc128]
        exact K129
      ·
        have K130 : ∀ t, Steps p.tables e below (T115.setTop (mkF m 191 #[.val (.int p0), .val (.int p1), .val (.int p2), .val (.int p3), .val (.int bd), .val (.int sel), .val (.ref b2), .val (.int (3 : Int32)), .val (.int pk), .val (.int q), .val (.ref b97), .val (.int ((own_inc q t0 (0 : Int32)) + (1 : Int32)))] [])) t → Steps p.tables e below G0 t := by
          intro t kt
          refine K126 t ?_
          refine XS.icmpNo X115.here hx rfl (hb hby at_185) rfl (flt hc128).2.2.1 ?_
          show Steps p.tables e below (T115.setTop (mkF m 188 #[.val (.int p0), .val (.int p1), .val (.int p2), .val (.int p3), .val (.int bd), .val (.int sel), .val (.ref b2), .val (.int (3 : Int32)), .val (.int pk), .val (.int q), .val (.ref b97), .val (.int (own_inc q t0 (0 : Int32)))] [])) _
          refine XS.iinc X115.here hx rfl (hb hby at_188) rfl (l' := #[.val (.int p0), .val (.int p1), .val (.int p2), .val (.int p3), .val (.int bd), .val (.int sel), .val (.ref b2), .val (.int (3 : Int32)), .val (.int pk), .val (.int q), .val (.ref b97), .val (.int ((own_inc q t0 (0 : Int32)) + (1 : Int32)))]) rfl ?_
          show Steps p.tables e below (T115.setTop (mkF m 191 #[.val (.int p0), .val (.int p1), .val (.int p2), .val (.int p3), .val (.int bd), .val (.int sel), .val (.ref b2), .val (.int (3 : Int32)), .val (.int pk), .val (.int q), .val (.ref b97), .val (.int ((own_inc q t0 (0 : Int32)) + (1 : Int32)))] [])) _
          exact kt
        rw [own_inc, if_neg hc128]
        exact K130
    have K131 : ∀ t, Steps p.tables e below (T115.setTop (mkF m 200 #[.val (.int p0), .val (.int p1), .val (.int p2), .val (.int p3), .val (.int bd), .val (.int sel), .val (.ref b2), .val (.int (3 : Int32)), .val (.int pk), .val (.int q), .val (.ref b97), .val (.int (own_inc q u1 (own_inc q t0 (0 : Int32))))] [(.int (2 : Int32)), (.ref b2)])) t → Steps p.tables e below G0 t := by
      intro t kt
      refine K127 t ?_
      refine XS.iload X115.here hx rfl (hb hby at_191) rfl ?_
      show Steps p.tables e below (T115.setTop (mkF m 193 #[.val (.int p0), .val (.int p1), .val (.int p2), .val (.int p3), .val (.int bd), .val (.int sel), .val (.ref b2), .val (.int (3 : Int32)), .val (.int pk), .val (.int q), .val (.ref b97), .val (.int (own_inc q u1 (own_inc q t0 (0 : Int32))))] [(.int (3 : Int32))])) _
      refine XS.iconst X115.here hx rfl (hb hby at_193) ?_
      show Steps p.tables e below (T115.setTop (mkF m 194 #[.val (.int p0), .val (.int p1), .val (.int p2), .val (.int p3), .val (.int bd), .val (.int sel), .val (.ref b2), .val (.int (3 : Int32)), .val (.int pk), .val (.int q), .val (.ref b97), .val (.int (own_inc q u1 (own_inc q t0 (0 : Int32))))] [(.int (2 : Int32)), (.int (3 : Int32))])) _
      refine XS.icmpNo X115.here hx rfl (hb hby at_194) rfl (tlt (by decide)).2.2.2 ?_
      show Steps p.tables e below (T115.setTop (mkF m 197 #[.val (.int p0), .val (.int p1), .val (.int p2), .val (.int p3), .val (.int bd), .val (.int sel), .val (.ref b2), .val (.int (3 : Int32)), .val (.int pk), .val (.int q), .val (.ref b97), .val (.int (own_inc q u1 (own_inc q t0 (0 : Int32))))] [])) _
      refine XS.aload X115.here hx rfl (hb hby at_197) rfl rfl ?_
      show Steps p.tables e below (T115.setTop (mkF m 199 #[.val (.int p0), .val (.int p1), .val (.int p2), .val (.int p3), .val (.int bd), .val (.int sel), .val (.ref b2), .val (.int (3 : Int32)), .val (.int pk), .val (.int q), .val (.ref b97), .val (.int (own_inc q u1 (own_inc q t0 (0 : Int32))))] [(.ref b2)])) _
      refine XS.iconst X115.here hx rfl (hb hby at_199) ?_
      show Steps p.tables e below (T115.setTop (mkF m 200 #[.val (.int p0), .val (.int p1), .val (.int p2), .val (.int p3), .val (.int bd), .val (.int sel), .val (.ref b2), .val (.int (3 : Int32)), .val (.int pk), .val (.int q), .val (.ref b97), .val (.int (own_inc q u1 (own_inc q t0 (0 : Int32))))] [(.int (2 : Int32)), (.ref b2)])) _
      exact kt
    obtain ⟨cl132, Ar132, qq132, S132, M132, H132, GG132⟩ := id f117
    have hin132 : ¬ ((2 : Int32) < 0 ∨ cl132.slots.size ≤ ((2 : Int32)).toNatClampNeg) := inb_of S132 ⟨by decide, by decide⟩
    have hat132 : cl132.slots[((2 : Int32)).toNatClampNeg]? = some (.int u2) := Has.at H132 hin132 rfl
    have K133 : ∀ t, Steps p.tables e below (T115.setTop (mkF m 203 #[.val (.int p0), .val (.int p1), .val (.int p2), .val (.int p3), .val (.int bd), .val (.int sel), .val (.ref b2), .val (.int (3 : Int32)), .val (.int pk), .val (.int q), .val (.ref b97), .val (.int (own_inc q u1 (own_inc q t0 (0 : Int32))))] [(.int q), (.int u2)])) t → Steps p.tables e below G0 t := by
      intro t kt
      refine K131 t ?_
      refine X115.iaload hx (j := (2 : Int32)) (v := (.int u2)) (by rw [e115]; exact (Ar132).1) (State.isArrayOf_alike hZ.alike (Ar132).2.1) (Ar132).2.2 hin132 hat132 (g := (mkF m 200 #[.val (.int p0), .val (.int p1), .val (.int p2), .val (.int p3), .val (.int bd), .val (.int sel), .val (.ref b2), .val (.int (3 : Int32)), .val (.int pk), .val (.int q), .val (.ref b97), .val (.int (own_inc q u1 (own_inc q t0 (0 : Int32))))] [(.int (2 : Int32)), (.ref b2)])) rfl rfl (hb hby at_200) _ ?_
      show Steps p.tables e below (T115.setTop (mkF m 201 #[.val (.int p0), .val (.int p1), .val (.int p2), .val (.int p3), .val (.int bd), .val (.int sel), .val (.ref b2), .val (.int (3 : Int32)), .val (.int pk), .val (.int q), .val (.ref b97), .val (.int (own_inc q u1 (own_inc q t0 (0 : Int32))))] [(.int u2)])) _
      refine XS.iload X115.here hx rfl (hb hby at_201) rfl ?_
      show Steps p.tables e below (T115.setTop (mkF m 203 #[.val (.int p0), .val (.int p1), .val (.int p2), .val (.int p3), .val (.int bd), .val (.int sel), .val (.ref b2), .val (.int (3 : Int32)), .val (.int pk), .val (.int q), .val (.ref b97), .val (.int (own_inc q u1 (own_inc q t0 (0 : Int32))))] [(.int q), (.int u2)])) _
      exact kt
    have K134 : ∀ t, Steps p.tables e below (T115.setTop (mkF m 209 #[.val (.int p0), .val (.int p1), .val (.int p2), .val (.int p3), .val (.int bd), .val (.int sel), .val (.ref b2), .val (.int (3 : Int32)), .val (.int pk), .val (.int q), .val (.ref b97), .val (.int (own_inc q u2 (own_inc q u1 (own_inc q t0 (0 : Int32)))))] [])) t → Steps p.tables e below G0 t := by
      by_cases hc135 : q < u2
      ·
        have K136 : ∀ t, Steps p.tables e below (T115.setTop (mkF m 209 #[.val (.int p0), .val (.int p1), .val (.int p2), .val (.int p3), .val (.int bd), .val (.int sel), .val (.ref b2), .val (.int (3 : Int32)), .val (.int pk), .val (.int q), .val (.ref b97), .val (.int (own_inc q u1 (own_inc q t0 (0 : Int32))))] [])) t → Steps p.tables e below G0 t := by
          intro t kt
          refine K133 t ?_
          refine XS.icmpYes X115.here hx rfl (pc0 := 203) (pc' := 209) rfl (hb hby at_203) rfl (tlt hc135).2.2.1 (by decide) (by decide) ?_
          show Steps p.tables e below (T115.setTop (mkF m 209 #[.val (.int p0), .val (.int p1), .val (.int p2), .val (.int p3), .val (.int bd), .val (.int sel), .val (.ref b2), .val (.int (3 : Int32)), .val (.int pk), .val (.int q), .val (.ref b97), .val (.int (own_inc q u1 (own_inc q t0 (0 : Int32))))] [])) _
          exact kt
        rw [own_inc, if_pos hc135]
        exact K136
      ·
        have K137 : ∀ t, Steps p.tables e below (T115.setTop (mkF m 209 #[.val (.int p0), .val (.int p1), .val (.int p2), .val (.int p3), .val (.int bd), .val (.int sel), .val (.ref b2), .val (.int (3 : Int32)), .val (.int pk), .val (.int q), .val (.ref b97), .val (.int ((own_inc q u1 (own_inc q t0 (0 : Int32))) + (1 : Int32)))] [])) t → Steps p.tables e below G0 t := by
          intro t kt
          refine K133 t ?_
          refine XS.icmpNo X115.here hx rfl (hb hby at_203) rfl (flt hc135).2.2.1 ?_
          show Steps p.tables e below (T115.setTop (mkF m 206 #[.val (.int p0), .val (.int p1), .val (.int p2), .val (.int p3), .val (.int bd), .val (.int sel), .val (.ref b2), .val (.int (3 : Int32)), .val (.int pk), .val (.int q), .val (.ref b97), .val (.int (own_inc q u1 (own_inc q t0 (0 : Int32))))] [])) _
          refine XS.iinc X115.here hx rfl (hb hby at_206) rfl (l' := #[.val (.int p0), .val (.int p1), .val (.int p2), .val (.int p3), .val (.int bd), .val (.int sel), .val (.ref b2), .val (.int (3 : Int32)), .val (.int pk), .val (.int q), .val (.ref b97), .val (.int ((own_inc q u1 (own_inc q t0 (0 : Int32))) + (1 : Int32)))]) rfl ?_
          show Steps p.tables e below (T115.setTop (mkF m 209 #[.val (.int p0), .val (.int p1), .val (.int p2), .val (.int p3), .val (.int bd), .val (.int sel), .val (.ref b2), .val (.int (3 : Int32)), .val (.int pk), .val (.int q), .val (.ref b97), .val (.int ((own_inc q u1 (own_inc q t0 (0 : Int32))) + (1 : Int32)))] [])) _
          exact kt
        rw [own_inc, if_neg hc135]
        exact K137
    have K138 : ∀ t, Steps p.tables e below (T115.setTop (mkF m 231 #[.val (.int p0), .val (.int p1), .val (.int p2), .val (.int p3), .val (.int bd), .val (.int sel), .val (.ref b2), .val (.int (3 : Int32)), .val (.int pk), .val (.int q), .val (.ref b97), .val (.int (own_inc q u2 (own_inc q u1 (own_inc q t0 (0 : Int32)))))] [(.int q), (.ref b97)])) t → Steps p.tables e below G0 t := by
      intro t kt
      refine K134 t ?_
      refine XS.iload X115.here hx rfl (hb hby at_209) rfl ?_
      show Steps p.tables e below (T115.setTop (mkF m 211 #[.val (.int p0), .val (.int p1), .val (.int p2), .val (.int p3), .val (.int bd), .val (.int sel), .val (.ref b2), .val (.int (3 : Int32)), .val (.int pk), .val (.int q), .val (.ref b97), .val (.int (own_inc q u2 (own_inc q u1 (own_inc q t0 (0 : Int32)))))] [(.int (3 : Int32))])) _
      refine XS.iconst X115.here hx rfl (hb hby at_211) ?_
      show Steps p.tables e below (T115.setTop (mkF m 212 #[.val (.int p0), .val (.int p1), .val (.int p2), .val (.int p3), .val (.int bd), .val (.int sel), .val (.ref b2), .val (.int (3 : Int32)), .val (.int pk), .val (.int q), .val (.ref b97), .val (.int (own_inc q u2 (own_inc q u1 (own_inc q t0 (0 : Int32)))))] [(.int (3 : Int32)), (.int (3 : Int32))])) _
      refine XS.icmpYes X115.here hx rfl (pc0 := 212) (pc' := 227) rfl (hb hby at_212) rfl (flt (by decide)).2.2.2 (by decide) (by decide) ?_
      show Steps p.tables e below (T115.setTop (mkF m 227 #[.val (.int p0), .val (.int p1), .val (.int p2), .val (.int p3), .val (.int bd), .val (.int sel), .val (.ref b2), .val (.int (3 : Int32)), .val (.int pk), .val (.int q), .val (.ref b97), .val (.int (own_inc q u2 (own_inc q u1 (own_inc q t0 (0 : Int32)))))] [])) _
      refine XS.aload X115.here hx rfl (hb hby at_227) rfl rfl ?_
      show Steps p.tables e below (T115.setTop (mkF m 229 #[.val (.int p0), .val (.int p1), .val (.int p2), .val (.int p3), .val (.int bd), .val (.int sel), .val (.ref b2), .val (.int (3 : Int32)), .val (.int pk), .val (.int q), .val (.ref b97), .val (.int (own_inc q u2 (own_inc q u1 (own_inc q t0 (0 : Int32)))))] [(.ref b97)])) _
      refine XS.iload X115.here hx rfl (hb hby at_229) rfl ?_
      show Steps p.tables e below (T115.setTop (mkF m 231 #[.val (.int p0), .val (.int p1), .val (.int p2), .val (.int p3), .val (.int bd), .val (.int sel), .val (.ref b2), .val (.int (3 : Int32)), .val (.int pk), .val (.int q), .val (.ref b97), .val (.int (own_inc q u2 (own_inc q u1 (own_inc q t0 (0 : Int32)))))] [(.int q), (.ref b97)])) _
      exact kt
    obtain ⟨_, _, ⟨T139, L139, k139, n139⟩, -, X139, ⟨Lc139, hQ139, l139, y139, z139⟩, st139⟩ := Jvm.LawKit.callS X115 hx (y := (⟨"com/example/lichen/lichen/analysis/Runs", "countUpTo", "([II)I"⟩ : MethodName)) hown (mvT hZ (hw _ (List.mem_of_getElem? (i := 6) rfl))) (mvT hZ (hw _ (List.mem_of_getElem? (i := 7) rfl))) (mvT hZ (hw _ (List.mem_of_getElem? (i := 8) rfl))) (mvT hZ (hw _ (List.mem_of_getElem? (i := 9) rfl))) (by decide) (backOf (W := 0) (rm2_3 l Z aa hw [] (b97) (q) _ t0 u1 u2 h115 n0 Z115 VL115 hsort.1 hsort.2.1) hZ (hw _ (List.mem_of_getElem? (i := 9) rfl)) (hw _ (List.mem_of_getElem? (i := 8) rfl)) (by decide) (by decide)) (g := (mkF m 231 #[.val (.int p0), .val (.int p1), .val (.int p2), .val (.int p3), .val (.int bd), .val (.int sel), .val (.ref b2), .val (.int (3 : Int32)), .val (.int pk), .val (.int q), .val (.ref b97), .val (.int (own_inc q u2 (own_inc q u1 (own_inc q t0 (0 : Int32)))))] [(.int q), (.ref b97)])) rfl (by rw [hml]; rfl) (argsL := [(.ref b97), (.int q)]) (rest := []) (lenOf pd_P_IIQI rfl) rfl (by show 2 * 0 + _ ≤ _; exact Nat.le_of_eq rfl) (hb hby at_231) (fun _ _ => ⟨rfl, e115, (by decide : 2 + 0 ≤ _), (by decide : 7 + 0 ≤ _)⟩)
    dsimp only [Pt.U, Pt.locs, Pt.cells, Pt.slots] at X139 l139 y139 z139 st139 hQ139
    subst l139 y139 z139
    obtain ⟨rfl, N139q, e139⟩ := hQ139
    have N139 := Fr.app N115 N139q
    have K139 : ∀ t, Steps p.tables e below (T139.setTop (mkF m 234 #[.val (.int p0), .val (.int p1), .val (.int p2), .val (.int p3), .val (.int bd), .val (.int sel), .val (.ref b2), .val (.int (3 : Int32)), .val (.int pk), .val (.int q), .val (.ref b97), .val (.int (own_inc q u2 (own_inc q u1 (own_inc q t0 (0 : Int32)))))] [(.int (own_inc q u2 (own_inc q u1 (own_inc q t0 (0 : Int32)))))])) t → Steps p.tables e below G0 t := fun t kt => K138 t (st139 _ kt)
    have K140 : ∀ t, Steps p.tables e below (T139.setTop (mkF m 244 #[.val (.int p0), .val (.int p1), .val (.int p2), .val (.int p3), .val (.int bd), .val (.int sel), .val (.ref b2), .val (.int (3 : Int32)), .val (.int pk), .val (.int q), .val (.ref b97), .val (.int (own_inc q u2 (own_inc q u1 (own_inc q t0 (0 : Int32)))))] [(.int (1 : Int32))])) t → Steps p.tables e below G0 t := by
      intro t kt
      refine K139 t ?_
      refine XS.iload X139.here hx rfl (hb hby at_234) rfl ?_
      show Steps p.tables e below (T139.setTop (mkF m 236 #[.val (.int p0), .val (.int p1), .val (.int p2), .val (.int p3), .val (.int bd), .val (.int sel), .val (.ref b2), .val (.int (3 : Int32)), .val (.int pk), .val (.int q), .val (.ref b97), .val (.int (own_inc q u2 (own_inc q u1 (own_inc q t0 (0 : Int32)))))] [(.int (own_inc q u2 (own_inc q u1 (own_inc q t0 (0 : Int32))))), (.int (own_inc q u2 (own_inc q u1 (own_inc q t0 (0 : Int32)))))])) _
      refine XS.icmpNo X139.here hx rfl (hb hby at_236) rfl (teq rfl).2 ?_
      show Steps p.tables e below (T139.setTop (mkF m 239 #[.val (.int p0), .val (.int p1), .val (.int p2), .val (.int p3), .val (.int bd), .val (.int sel), .val (.ref b2), .val (.int (3 : Int32)), .val (.int pk), .val (.int q), .val (.ref b97), .val (.int (own_inc q u2 (own_inc q u1 (own_inc q t0 (0 : Int32)))))] [])) _
      refine XS.iconst X139.here hx rfl (hb hby at_239) ?_
      show Steps p.tables e below (T139.setTop (mkF m 240 #[.val (.int p0), .val (.int p1), .val (.int p2), .val (.int p3), .val (.int bd), .val (.int sel), .val (.ref b2), .val (.int (3 : Int32)), .val (.int pk), .val (.int q), .val (.ref b97), .val (.int (own_inc q u2 (own_inc q u1 (own_inc q t0 (0 : Int32)))))] [(.int (1 : Int32))])) _
      refine XS.goto X139.here hx rfl (pc0 := 240) (pc' := 244) rfl (hb hby at_240) (by decide) (by decide) ?_
      show Steps p.tables e below (T139.setTop (mkF m 244 #[.val (.int p0), .val (.int p1), .val (.int p2), .val (.int p3), .val (.int bd), .val (.int sel), .val (.ref b2), .val (.int (3 : Int32)), .val (.int pk), .val (.int q), .val (.ref b97), .val (.int (own_inc q u2 (own_inc q u1 (own_inc q t0 (0 : Int32)))))] [(.int (1 : Int32))])) _
      exact kt
    obtain ⟨fs, hr, hrun, hended, hW, hsame⟩ := X139.leave (v := some (.int (1 : Int32))) (fun h => by rw [Bd.returns] at h; cases h)
    refine ⟨_, _, ?_, hrun, hended, _, _, rfl, ?_, ⟨_, rfl⟩, hW, hsame.mono (by decide) (by decide)⟩
    · rw [← hG0]
      refine K140 _ ?_
      exact retN X139 hx (t := .boolean) Bd.returns (by simp) (hb hby at_244) hr
    · show Q0 Z p0 p1 p2 p3 bd sel h0 n0 _ T139.heap _
      rw [e139]
      exact ⟨rfl, N139⟩
  ·
    rw [hn] at K28
    have K141 : ∀ t, Steps p.tables e below (T24.setTop (mkF m 94 #[.val (.int p0), .val (.int p1), .val (.int p2), .val (.int p3), .val (.int bd), .val (.int sel), .val (.ref b2), .val (.int (4 : Int32)), .val (.int pk), .val (.int q), .unset, .unset] [(.int (4 : Int32))])) t → Steps p.tables e below G0 t := by
      intro t kt
      refine K28 t ?_
      refine XS.iload X24.here hx rfl (hb hby at_92) rfl ?_
      show Steps p.tables e below (T24.setTop (mkF m 94 #[.val (.int p0), .val (.int p1), .val (.int p2), .val (.int p3), .val (.int bd), .val (.int sel), .val (.ref b2), .val (.int (4 : Int32)), .val (.int pk), .val (.int q), .unset, .unset] [(.int (4 : Int32))])) _
      exact kt
    obtain ⟨T142, h142, k142, X142, e142, E142, A142, st142⟩ := newP X24 hx hZ (hw _ (List.mem_of_getElem? (i := 0) rfl)) (rfl : T24.heap = _) (g := (mkF m 94 #[.val (.int p0), .val (.int p1), .val (.int p2), .val (.int p3), .val (.int bd), .val (.int sel), .val (.ref b2), .val (.int (4 : Int32)), .val (.int pk), .val (.int q), .unset, .unset] [(.int (4 : Int32))])) rfl (hb hby at_94) rfl (by decide) (cap := 4) (by decide) (by decide) (by decide) (by decide)
    obtain ⟨b142, g142⟩ : ∃ z, z = T24.heap.size := ⟨_, rfl⟩
    rw [← g142] at A142 st142
    have V142 := Arv.new A142 (by decide)
    have gn142 : n0 ≤ b142 := Nat.le_trans Z24 (Nat.le_of_eq g142.symm)
    have Z142 : n0 ≤ h142.size := Nat.le_trans Z24 E142.1
    have K142 : ∀ t, Steps p.tables e below (T142.setTop (mkF m 96 #[.val (.int p0), .val (.int p1), .val (.int p2), .val (.int p3), .val (.int bd), .val (.int sel), .val (.ref b2), .val (.int (4 : Int32)), .val (.int pk), .val (.int q), .unset, .unset] [(.ref b142)])) t → Steps p.tables e below G0 t := fun t kt => K141 t (st142 _ kt)
    have ne_b2_b142 : b2 ≠ b142 := Nat.ne_of_lt (Nat.lt_of_lt_of_le (VVx12).lt (Nat.le_of_eq g142.symm))
    have VL142 : Arv Z h142 b142 k142 .int (4 : Int32) [(.int (0 : Int32)), (.int (0 : Int32)), (.int (0 : Int32)), (.int (0 : Int32))] (.int (0 : Int32)) := V142.pad (pad_rep [] (.int (0 : Int32)) 4)
    have K143 : ∀ t, Steps p.tables e below (T142.setTop (mkF m 109 #[.val (.int p0), .val (.int p1), .val (.int p2), .val (.int p3), .val (.int bd), .val (.int sel), .val (.ref b2), .val (.int (4 : Int32)), .val (.int pk), .val (.int q), .val (.ref b142), .unset] [(.int (0 : Int32)), (.ref b2), (.int (0 : Int32)), (.ref b142)])) t → Steps p.tables e below G0 t := by
      intro t kt
      refine K142 t ?_
      refine XS.astore X142.here hx rfl (hb hby at_96) rfl rfl (l' := #[.val (.int p0), .val (.int p1), .val (.int p2), .val (.int p3), .val (.int bd), .val (.int sel), .val (.ref b2), .val (.int (4 : Int32)), .val (.int pk), .val (.int q), .val (.ref b142), .unset]) rfl ?_
      show Steps p.tables e below (T142.setTop (mkF m 98 #[.val (.int p0), .val (.int p1), .val (.int p2), .val (.int p3), .val (.int bd), .val (.int sel), .val (.ref b2), .val (.int (4 : Int32)), .val (.int pk), .val (.int q), .val (.ref b142), .unset] [])) _
      refine XS.iload X142.here hx rfl (hb hby at_98) rfl ?_
      show Steps p.tables e below (T142.setTop (mkF m 100 #[.val (.int p0), .val (.int p1), .val (.int p2), .val (.int p3), .val (.int bd), .val (.int sel), .val (.ref b2), .val (.int (4 : Int32)), .val (.int pk), .val (.int q), .val (.ref b142), .unset] [(.int (4 : Int32))])) _
      refine XS.ifNo X142.here hx rfl (hb hby at_100) rfl ((if0 _ _).trans (tlt (by decide)).2.2.2) ?_
      show Steps p.tables e below (T142.setTop (mkF m 103 #[.val (.int p0), .val (.int p1), .val (.int p2), .val (.int p3), .val (.int bd), .val (.int sel), .val (.ref b2), .val (.int (4 : Int32)), .val (.int pk), .val (.int q), .val (.ref b142), .unset] [])) _
      refine XS.aload X142.here hx rfl (hb hby at_103) rfl rfl ?_
      show Steps p.tables e below (T142.setTop (mkF m 105 #[.val (.int p0), .val (.int p1), .val (.int p2), .val (.int p3), .val (.int bd), .val (.int sel), .val (.ref b2), .val (.int (4 : Int32)), .val (.int pk), .val (.int q), .val (.ref b142), .unset] [(.ref b142)])) _
      refine XS.iconst X142.here hx rfl (hb hby at_105) ?_
      show Steps p.tables e below (T142.setTop (mkF m 106 #[.val (.int p0), .val (.int p1), .val (.int p2), .val (.int p3), .val (.int bd), .val (.int sel), .val (.ref b2), .val (.int (4 : Int32)), .val (.int pk), .val (.int q), .val (.ref b142), .unset] [(.int (0 : Int32)), (.ref b142)])) _
      refine XS.aload X142.here hx rfl (hb hby at_106) rfl rfl ?_
      show Steps p.tables e below (T142.setTop (mkF m 108 #[.val (.int p0), .val (.int p1), .val (.int p2), .val (.int p3), .val (.int bd), .val (.int sel), .val (.ref b2), .val (.int (4 : Int32)), .val (.int pk), .val (.int q), .val (.ref b142), .unset] [(.ref b2), (.int (0 : Int32)), (.ref b142)])) _
      refine XS.iconst X142.here hx rfl (hb hby at_108) ?_
      show Steps p.tables e below (T142.setTop (mkF m 109 #[.val (.int p0), .val (.int p1), .val (.int p2), .val (.int p3), .val (.int bd), .val (.int sel), .val (.ref b2), .val (.int (4 : Int32)), .val (.int pk), .val (.int q), .val (.ref b142), .unset] [(.int (0 : Int32)), (.ref b2), (.int (0 : Int32)), (.ref b142)])) _
      exact kt
    have f144 := (VVx12.ext E142)
    obtain ⟨cl145, Ar145, qq145, S145, M145, H145, GG145⟩ := id f144
    have hin145 : ¬ ((0 : Int32) < 0 ∨ cl145.slots.size ≤ ((0 : Int32)).toNatClampNeg) := inb_of S145 ⟨by decide, by decide⟩
    have hat145 : cl145.slots[((0 : Int32)).toNatClampNeg]? = some (.int t0) := Has.at H145 hin145 rfl
    have K146 : ∀ t, Steps p.tables e below (T142.setTop (mkF m 110 #[.val (.int p0), .val (.int p1), .val (.int p2), .val (.int p3), .val (.int bd), .val (.int sel), .val (.ref b2), .val (.int (4 : Int32)), .val (.int pk), .val (.int q), .val (.ref b142), .unset] [(.int t0), (.int (0 : Int32)), (.ref b142)])) t → Steps p.tables e below G0 t := by
      intro t kt
      refine K143 t ?_
      refine X142.iaload hx (j := (0 : Int32)) (v := (.int t0)) (by rw [e142]; exact (Ar145).1) (State.isArrayOf_alike hZ.alike (Ar145).2.1) (Ar145).2.2 hin145 hat145 (g := (mkF m 109 #[.val (.int p0), .val (.int p1), .val (.int p2), .val (.int p3), .val (.int bd), .val (.int sel), .val (.ref b2), .val (.int (4 : Int32)), .val (.int pk), .val (.int q), .val (.ref b142), .unset] [(.int (0 : Int32)), (.ref b2), (.int (0 : Int32)), (.ref b142)])) rfl rfl (hb hby at_109) _ ?_
      show Steps p.tables e below (T142.setTop (mkF m 110 #[.val (.int p0), .val (.int p1), .val (.int p2), .val (.int p3), .val (.int bd), .val (.int sel), .val (.ref b2), .val (.int (4 : Int32)), .val (.int pk), .val (.int q), .val (.ref b142), .unset] [(.int t0), (.int (0 : Int32)), (.ref b142)])) _
      exact kt
    obtain ⟨cl147, Ar147, qq147, S147, M147, H147, GG147⟩ := id VL142
    have hin147 : ¬ ((0 : Int32) < 0 ∨ cl147.slots.size ≤ ((0 : Int32)).toNatClampNeg) := inb_of S147 ⟨by decide, by decide⟩
    obtain ⟨T148, h148, X148, e148, W148, st148⟩ := stI X142 hx hZ e142 Ar147 (j := (0 : Int32)) hin147 (g := (mkF m 110 #[.val (.int p0), .val (.int p1), .val (.int p2), .val (.int p3), .val (.int bd), .val (.int sel), .val (.ref b2), .val (.int (4 : Int32)), .val (.int pk), .val (.int q), .val (.ref b142), .unset] [(.int t0), (.int (0 : Int32)), (.ref b142)])) rfl rfl (hb hby at_110)
    have K148 : ∀ t, Steps p.tables e below (T148.setTop (mkF m 111 #[.val (.int p0), .val (.int p1), .val (.int p2), .val (.int p3), .val (.int bd), .val (.int sel), .val (.ref b2), .val (.int (4 : Int32)), .val (.int pk), .val (.int q), .val (.ref b142), .unset] [])) t → Steps p.tables e below G0 t := fun t kt => K146 t (st148 _ kt)
    have Z148 : n0 ≤ h148.size := Nat.le_trans Z142 (Keep.of_wr W148).1
    have VL148 : Arv Z h148 b142 k142 .int (4 : Int32) [(.int t0), (.int (0 : Int32)), (.int (0 : Int32)), (.int (0 : Int32))] (.int (0 : Int32)) := Arv.set Ar147 qq147 S147 M147 H147 GG147 rfl W148 0 rfl (Nat.le_of_ble_eq_true rfl)
    have N148 := Fr.snoc X148 N24 gn142
    have K149 : ∀ t, Steps p.tables e below (T148.setTop (mkF m 123 #[.val (.int p0), .val (.int p1), .val (.int p2), .val (.int p3), .val (.int bd), .val (.int sel), .val (.ref b2), .val (.int (4 : Int32)), .val (.int pk), .val (.int q), .val (.ref b142), .unset] [(.int (1 : Int32)), (.ref b2), (.int (1 : Int32)), (.ref b142)])) t → Steps p.tables e below G0 t := by
      intro t kt
      refine K148 t ?_
      refine XS.iload X148.here hx rfl (hb hby at_111) rfl ?_
      show Steps p.tables e below (T148.setTop (mkF m 113 #[.val (.int p0), .val (.int p1), .val (.int p2), .val (.int p3), .val (.int bd), .val (.int sel), .val (.ref b2), .val (.int (4 : Int32)), .val (.int pk), .val (.int q), .val (.ref b142), .unset] [(.int (4 : Int32))])) _
      refine XS.iconst X148.here hx rfl (hb hby at_113) ?_
      show Steps p.tables e below (T148.setTop (mkF m 114 #[.val (.int p0), .val (.int p1), .val (.int p2), .val (.int p3), .val (.int bd), .val (.int sel), .val (.ref b2), .val (.int (4 : Int32)), .val (.int pk), .val (.int q), .val (.ref b142), .unset] [(.int (1 : Int32)), (.int (4 : Int32))])) _
      refine XS.icmpNo X148.here hx rfl (hb hby at_114) rfl (tlt (by decide)).2.2.2 ?_
      show Steps p.tables e below (T148.setTop (mkF m 117 #[.val (.int p0), .val (.int p1), .val (.int p2), .val (.int p3), .val (.int bd), .val (.int sel), .val (.ref b2), .val (.int (4 : Int32)), .val (.int pk), .val (.int q), .val (.ref b142), .unset] [])) _
      refine XS.aload X148.here hx rfl (hb hby at_117) rfl rfl ?_
      show Steps p.tables e below (T148.setTop (mkF m 119 #[.val (.int p0), .val (.int p1), .val (.int p2), .val (.int p3), .val (.int bd), .val (.int sel), .val (.ref b2), .val (.int (4 : Int32)), .val (.int pk), .val (.int q), .val (.ref b142), .unset] [(.ref b142)])) _
      refine XS.iconst X148.here hx rfl (hb hby at_119) ?_
      show Steps p.tables e below (T148.setTop (mkF m 120 #[.val (.int p0), .val (.int p1), .val (.int p2), .val (.int p3), .val (.int bd), .val (.int sel), .val (.ref b2), .val (.int (4 : Int32)), .val (.int pk), .val (.int q), .val (.ref b142), .unset] [(.int (1 : Int32)), (.ref b142)])) _
      refine XS.aload X148.here hx rfl (hb hby at_120) rfl rfl ?_
      show Steps p.tables e below (T148.setTop (mkF m 122 #[.val (.int p0), .val (.int p1), .val (.int p2), .val (.int p3), .val (.int bd), .val (.int sel), .val (.ref b2), .val (.int (4 : Int32)), .val (.int pk), .val (.int q), .val (.ref b142), .unset] [(.ref b2), (.int (1 : Int32)), (.ref b142)])) _
      refine XS.iconst X148.here hx rfl (hb hby at_122) ?_
      show Steps p.tables e below (T148.setTop (mkF m 123 #[.val (.int p0), .val (.int p1), .val (.int p2), .val (.int p3), .val (.int bd), .val (.int sel), .val (.ref b2), .val (.int (4 : Int32)), .val (.int pk), .val (.int q), .val (.ref b142), .unset] [(.int (1 : Int32)), (.ref b2), (.int (1 : Int32)), (.ref b142)])) _
      exact kt
    have f150 := (f144.other W148 ne_b2_b142)
    obtain ⟨cl151, Ar151, qq151, S151, M151, H151, GG151⟩ := id f150
    have hin151 : ¬ ((1 : Int32) < 0 ∨ cl151.slots.size ≤ ((1 : Int32)).toNatClampNeg) := inb_of S151 ⟨by decide, by decide⟩
    have hat151 : cl151.slots[((1 : Int32)).toNatClampNeg]? = some (.int u1) := Has.at H151 hin151 rfl
    have K152 : ∀ t, Steps p.tables e below (T148.setTop (mkF m 124 #[.val (.int p0), .val (.int p1), .val (.int p2), .val (.int p3), .val (.int bd), .val (.int sel), .val (.ref b2), .val (.int (4 : Int32)), .val (.int pk), .val (.int q), .val (.ref b142), .unset] [(.int u1), (.int (1 : Int32)), (.ref b142)])) t → Steps p.tables e below G0 t := by
      intro t kt
      refine K149 t ?_
      refine X148.iaload hx (j := (1 : Int32)) (v := (.int u1)) (by rw [e148]; exact (Ar151).1) (State.isArrayOf_alike hZ.alike (Ar151).2.1) (Ar151).2.2 hin151 hat151 (g := (mkF m 123 #[.val (.int p0), .val (.int p1), .val (.int p2), .val (.int p3), .val (.int bd), .val (.int sel), .val (.ref b2), .val (.int (4 : Int32)), .val (.int pk), .val (.int q), .val (.ref b142), .unset] [(.int (1 : Int32)), (.ref b2), (.int (1 : Int32)), (.ref b142)])) rfl rfl (hb hby at_123) _ ?_
      show Steps p.tables e below (T148.setTop (mkF m 124 #[.val (.int p0), .val (.int p1), .val (.int p2), .val (.int p3), .val (.int bd), .val (.int sel), .val (.ref b2), .val (.int (4 : Int32)), .val (.int pk), .val (.int q), .val (.ref b142), .unset] [(.int u1), (.int (1 : Int32)), (.ref b142)])) _
      exact kt
    obtain ⟨cl153, Ar153, qq153, S153, M153, H153, GG153⟩ := id VL148
    have hin153 : ¬ ((1 : Int32) < 0 ∨ cl153.slots.size ≤ ((1 : Int32)).toNatClampNeg) := inb_of S153 ⟨by decide, by decide⟩
    obtain ⟨T154, h154, X154, e154, W154, st154⟩ := stI X148 hx hZ e148 Ar153 (j := (1 : Int32)) hin153 (g := (mkF m 124 #[.val (.int p0), .val (.int p1), .val (.int p2), .val (.int p3), .val (.int bd), .val (.int sel), .val (.ref b2), .val (.int (4 : Int32)), .val (.int pk), .val (.int q), .val (.ref b142), .unset] [(.int u1), (.int (1 : Int32)), (.ref b142)])) rfl rfl (hb hby at_124)
    have K154 : ∀ t, Steps p.tables e below (T154.setTop (mkF m 125 #[.val (.int p0), .val (.int p1), .val (.int p2), .val (.int p3), .val (.int bd), .val (.int sel), .val (.ref b2), .val (.int (4 : Int32)), .val (.int pk), .val (.int q), .val (.ref b142), .unset] [])) t → Steps p.tables e below G0 t := fun t kt => K152 t (st154 _ kt)
    have Z154 : n0 ≤ h154.size := Nat.le_trans Z148 (Keep.of_wr W154).1
    have VL154 : Arv Z h154 b142 k142 .int (4 : Int32) [(.int t0), (.int u1), (.int (0 : Int32)), (.int (0 : Int32))] (.int (0 : Int32)) := Arv.set Ar153 qq153 S153 M153 H153 GG153 rfl W154 1 rfl (Nat.le_of_ble_eq_true rfl)
    have N154 := Fr.snoc X154 N148 gn142
    have K155 : ∀ t, Steps p.tables e below (T154.setTop (mkF m 137 #[.val (.int p0), .val (.int p1), .val (.int p2), .val (.int p3), .val (.int bd), .val (.int sel), .val (.ref b2), .val (.int (4 : Int32)), .val (.int pk), .val (.int q), .val (.ref b142), .unset] [(.int (2 : Int32)), (.ref b2), (.int (2 : Int32)), (.ref b142)])) t → Steps p.tables e below G0 t := by
      intro t kt
      refine K154 t ?_
      refine XS.iload X154.here hx rfl (hb hby at_125) rfl ?_
      show Steps p.tables e below (T154.setTop (mkF m 127 #[.val (.int p0), .val (.int p1), .val (.int p2), .val (.int p3), .val (.int bd), .val (.int sel), .val (.ref b2), .val (.int (4 : Int32)), .val (.int pk), .val (.int q), .val (.ref b142), .unset] [(.int (4 : Int32))])) _
      refine XS.iconst X154.here hx rfl (hb hby at_127) ?_
      show Steps p.tables e below (T154.setTop (mkF m 128 #[.val (.int p0), .val (.int p1), .val (.int p2), .val (.int p3), .val (.int bd), .val (.int sel), .val (.ref b2), .val (.int (4 : Int32)), .val (.int pk), .val (.int q), .val (.ref b142), .unset] [(.int (2 : Int32)), (.int (4 : Int32))])) _
      refine XS.icmpNo X154.here hx rfl (hb hby at_128) rfl (tlt (by decide)).2.2.2 ?_
      show Steps p.tables e below (T154.setTop (mkF m 131 #[.val (.int p0), .val (.int p1), .val (.int p2), .val (.int p3), .val (.int bd), .val (.int sel), .val (.ref b2), .val (.int (4 : Int32)), .val (.int pk), .val (.int q), .val (.ref b142), .unset] [])) _
      refine XS.aload X154.here hx rfl (hb hby at_131) rfl rfl ?_
      show Steps p.tables e below (T154.setTop (mkF m 133 #[.val (.int p0), .val (.int p1), .val (.int p2), .val (.int p3), .val (.int bd), .val (.int sel), .val (.ref b2), .val (.int (4 : Int32)), .val (.int pk), .val (.int q), .val (.ref b142), .unset] [(.ref b142)])) _
      refine XS.iconst X154.here hx rfl (hb hby at_133) ?_
      show Steps p.tables e below (T154.setTop (mkF m 134 #[.val (.int p0), .val (.int p1), .val (.int p2), .val (.int p3), .val (.int bd), .val (.int sel), .val (.ref b2), .val (.int (4 : Int32)), .val (.int pk), .val (.int q), .val (.ref b142), .unset] [(.int (2 : Int32)), (.ref b142)])) _
      refine XS.aload X154.here hx rfl (hb hby at_134) rfl rfl ?_
      show Steps p.tables e below (T154.setTop (mkF m 136 #[.val (.int p0), .val (.int p1), .val (.int p2), .val (.int p3), .val (.int bd), .val (.int sel), .val (.ref b2), .val (.int (4 : Int32)), .val (.int pk), .val (.int q), .val (.ref b142), .unset] [(.ref b2), (.int (2 : Int32)), (.ref b142)])) _
      refine XS.iconst X154.here hx rfl (hb hby at_136) ?_
      show Steps p.tables e below (T154.setTop (mkF m 137 #[.val (.int p0), .val (.int p1), .val (.int p2), .val (.int p3), .val (.int bd), .val (.int sel), .val (.ref b2), .val (.int (4 : Int32)), .val (.int pk), .val (.int q), .val (.ref b142), .unset] [(.int (2 : Int32)), (.ref b2), (.int (2 : Int32)), (.ref b142)])) _
      exact kt
    have f156 := (f150.other W154 ne_b2_b142)
    obtain ⟨cl157, Ar157, qq157, S157, M157, H157, GG157⟩ := id f156
    have hin157 : ¬ ((2 : Int32) < 0 ∨ cl157.slots.size ≤ ((2 : Int32)).toNatClampNeg) := inb_of S157 ⟨by decide, by decide⟩
    have hat157 : cl157.slots[((2 : Int32)).toNatClampNeg]? = some (.int u2) := Has.at H157 hin157 rfl
    have K158 : ∀ t, Steps p.tables e below (T154.setTop (mkF m 138 #[.val (.int p0), .val (.int p1), .val (.int p2), .val (.int p3), .val (.int bd), .val (.int sel), .val (.ref b2), .val (.int (4 : Int32)), .val (.int pk), .val (.int q), .val (.ref b142), .unset] [(.int u2), (.int (2 : Int32)), (.ref b142)])) t → Steps p.tables e below G0 t := by
      intro t kt
      refine K155 t ?_
      refine X154.iaload hx (j := (2 : Int32)) (v := (.int u2)) (by rw [e154]; exact (Ar157).1) (State.isArrayOf_alike hZ.alike (Ar157).2.1) (Ar157).2.2 hin157 hat157 (g := (mkF m 137 #[.val (.int p0), .val (.int p1), .val (.int p2), .val (.int p3), .val (.int bd), .val (.int sel), .val (.ref b2), .val (.int (4 : Int32)), .val (.int pk), .val (.int q), .val (.ref b142), .unset] [(.int (2 : Int32)), (.ref b2), (.int (2 : Int32)), (.ref b142)])) rfl rfl (hb hby at_137) _ ?_
      show Steps p.tables e below (T154.setTop (mkF m 138 #[.val (.int p0), .val (.int p1), .val (.int p2), .val (.int p3), .val (.int bd), .val (.int sel), .val (.ref b2), .val (.int (4 : Int32)), .val (.int pk), .val (.int q), .val (.ref b142), .unset] [(.int u2), (.int (2 : Int32)), (.ref b142)])) _
      exact kt
    obtain ⟨cl159, Ar159, qq159, S159, M159, H159, GG159⟩ := id VL154
    have hin159 : ¬ ((2 : Int32) < 0 ∨ cl159.slots.size ≤ ((2 : Int32)).toNatClampNeg) := inb_of S159 ⟨by decide, by decide⟩
    obtain ⟨T160, h160, X160, e160, W160, st160⟩ := stI X154 hx hZ e154 Ar159 (j := (2 : Int32)) hin159 (g := (mkF m 138 #[.val (.int p0), .val (.int p1), .val (.int p2), .val (.int p3), .val (.int bd), .val (.int sel), .val (.ref b2), .val (.int (4 : Int32)), .val (.int pk), .val (.int q), .val (.ref b142), .unset] [(.int u2), (.int (2 : Int32)), (.ref b142)])) rfl rfl (hb hby at_138)
    have K160 : ∀ t, Steps p.tables e below (T160.setTop (mkF m 139 #[.val (.int p0), .val (.int p1), .val (.int p2), .val (.int p3), .val (.int bd), .val (.int sel), .val (.ref b2), .val (.int (4 : Int32)), .val (.int pk), .val (.int q), .val (.ref b142), .unset] [])) t → Steps p.tables e below G0 t := fun t kt => K158 t (st160 _ kt)
    have Z160 : n0 ≤ h160.size := Nat.le_trans Z154 (Keep.of_wr W160).1
    have VL160 : Arv Z h160 b142 k142 .int (4 : Int32) [(.int t0), (.int u1), (.int u2), (.int (0 : Int32))] (.int (0 : Int32)) := Arv.set Ar159 qq159 S159 M159 H159 GG159 rfl W160 2 rfl (Nat.le_of_ble_eq_true rfl)
    have N160 := Fr.snoc X160 N154 gn142
    have K161 : ∀ t, Steps p.tables e below (T160.setTop (mkF m 151 #[.val (.int p0), .val (.int p1), .val (.int p2), .val (.int p3), .val (.int bd), .val (.int sel), .val (.ref b2), .val (.int (4 : Int32)), .val (.int pk), .val (.int q), .val (.ref b142), .unset] [(.int (3 : Int32)), (.ref b2), (.int (3 : Int32)), (.ref b142)])) t → Steps p.tables e below G0 t := by
      intro t kt
      refine K160 t ?_
      refine XS.iload X160.here hx rfl (hb hby at_139) rfl ?_
      show Steps p.tables e below (T160.setTop (mkF m 141 #[.val (.int p0), .val (.int p1), .val (.int p2), .val (.int p3), .val (.int bd), .val (.int sel), .val (.ref b2), .val (.int (4 : Int32)), .val (.int pk), .val (.int q), .val (.ref b142), .unset] [(.int (4 : Int32))])) _
      refine XS.iconst X160.here hx rfl (hb hby at_141) ?_
      show Steps p.tables e below (T160.setTop (mkF m 142 #[.val (.int p0), .val (.int p1), .val (.int p2), .val (.int p3), .val (.int bd), .val (.int sel), .val (.ref b2), .val (.int (4 : Int32)), .val (.int pk), .val (.int q), .val (.ref b142), .unset] [(.int (3 : Int32)), (.int (4 : Int32))])) _
      refine XS.icmpNo X160.here hx rfl (hb hby at_142) rfl (tlt (by decide)).2.2.2 ?_
      show Steps p.tables e below (T160.setTop (mkF m 145 #[.val (.int p0), .val (.int p1), .val (.int p2), .val (.int p3), .val (.int bd), .val (.int sel), .val (.ref b2), .val (.int (4 : Int32)), .val (.int pk), .val (.int q), .val (.ref b142), .unset] [])) _
      refine XS.aload X160.here hx rfl (hb hby at_145) rfl rfl ?_
      show Steps p.tables e below (T160.setTop (mkF m 147 #[.val (.int p0), .val (.int p1), .val (.int p2), .val (.int p3), .val (.int bd), .val (.int sel), .val (.ref b2), .val (.int (4 : Int32)), .val (.int pk), .val (.int q), .val (.ref b142), .unset] [(.ref b142)])) _
      refine XS.iconst X160.here hx rfl (hb hby at_147) ?_
      show Steps p.tables e below (T160.setTop (mkF m 148 #[.val (.int p0), .val (.int p1), .val (.int p2), .val (.int p3), .val (.int bd), .val (.int sel), .val (.ref b2), .val (.int (4 : Int32)), .val (.int pk), .val (.int q), .val (.ref b142), .unset] [(.int (3 : Int32)), (.ref b142)])) _
      refine XS.aload X160.here hx rfl (hb hby at_148) rfl rfl ?_
      show Steps p.tables e below (T160.setTop (mkF m 150 #[.val (.int p0), .val (.int p1), .val (.int p2), .val (.int p3), .val (.int bd), .val (.int sel), .val (.ref b2), .val (.int (4 : Int32)), .val (.int pk), .val (.int q), .val (.ref b142), .unset] [(.ref b2), (.int (3 : Int32)), (.ref b142)])) _
      refine XS.iconst X160.here hx rfl (hb hby at_150) ?_
      show Steps p.tables e below (T160.setTop (mkF m 151 #[.val (.int p0), .val (.int p1), .val (.int p2), .val (.int p3), .val (.int bd), .val (.int sel), .val (.ref b2), .val (.int (4 : Int32)), .val (.int pk), .val (.int q), .val (.ref b142), .unset] [(.int (3 : Int32)), (.ref b2), (.int (3 : Int32)), (.ref b142)])) _
      exact kt
    have f162 := (f156.other W160 ne_b2_b142)
    obtain ⟨cl163, Ar163, qq163, S163, M163, H163, GG163⟩ := id f162
    have hin163 : ¬ ((3 : Int32) < 0 ∨ cl163.slots.size ≤ ((3 : Int32)).toNatClampNeg) := inb_of S163 ⟨by decide, by decide⟩
    have hat163 : cl163.slots[((3 : Int32)).toNatClampNeg]? = some (.int t3) := Has.at H163 hin163 rfl
    have K164 : ∀ t, Steps p.tables e below (T160.setTop (mkF m 152 #[.val (.int p0), .val (.int p1), .val (.int p2), .val (.int p3), .val (.int bd), .val (.int sel), .val (.ref b2), .val (.int (4 : Int32)), .val (.int pk), .val (.int q), .val (.ref b142), .unset] [(.int t3), (.int (3 : Int32)), (.ref b142)])) t → Steps p.tables e below G0 t := by
      intro t kt
      refine K161 t ?_
      refine X160.iaload hx (j := (3 : Int32)) (v := (.int t3)) (by rw [e160]; exact (Ar163).1) (State.isArrayOf_alike hZ.alike (Ar163).2.1) (Ar163).2.2 hin163 hat163 (g := (mkF m 151 #[.val (.int p0), .val (.int p1), .val (.int p2), .val (.int p3), .val (.int bd), .val (.int sel), .val (.ref b2), .val (.int (4 : Int32)), .val (.int pk), .val (.int q), .val (.ref b142), .unset] [(.int (3 : Int32)), (.ref b2), (.int (3 : Int32)), (.ref b142)])) rfl rfl (hb hby at_151) _ ?_
      show Steps p.tables e below (T160.setTop (mkF m 152 #[.val (.int p0), .val (.int p1), .val (.int p2), .val (.int p3), .val (.int bd), .val (.int sel), .val (.ref b2), .val (.int (4 : Int32)), .val (.int pk), .val (.int q), .val (.ref b142), .unset] [(.int t3), (.int (3 : Int32)), (.ref b142)])) _
      exact kt
    obtain ⟨cl165, Ar165, qq165, S165, M165, H165, GG165⟩ := id VL160
    have hin165 : ¬ ((3 : Int32) < 0 ∨ cl165.slots.size ≤ ((3 : Int32)).toNatClampNeg) := inb_of S165 ⟨by decide, by decide⟩
    obtain ⟨T166, h166, X166, e166, W166, st166⟩ := stI X160 hx hZ e160 Ar165 (j := (3 : Int32)) hin165 (g := (mkF m 152 #[.val (.int p0), .val (.int p1), .val (.int p2), .val (.int p3), .val (.int bd), .val (.int sel), .val (.ref b2), .val (.int (4 : Int32)), .val (.int pk), .val (.int q), .val (.ref b142), .unset] [(.int t3), (.int (3 : Int32)), (.ref b142)])) rfl rfl (hb hby at_152)
    have K166 : ∀ t, Steps p.tables e below (T166.setTop (mkF m 153 #[.val (.int p0), .val (.int p1), .val (.int p2), .val (.int p3), .val (.int bd), .val (.int sel), .val (.ref b2), .val (.int (4 : Int32)), .val (.int pk), .val (.int q), .val (.ref b142), .unset] [])) t → Steps p.tables e below G0 t := fun t kt => K164 t (st166 _ kt)
    have Z166 : n0 ≤ h166.size := Nat.le_trans Z160 (Keep.of_wr W166).1
    have VL166 : Arv Z h166 b142 k142 .int (4 : Int32) [(.int t0), (.int u1), (.int u2), (.int t3)] (.int (0 : Int32)) := Arv.set Ar165 qq165 S165 M165 H165 GG165 rfl W166 3 rfl (Nat.le_of_ble_eq_true rfl)
    have N166 := Fr.snoc X166 N160 gn142
    have K167 : ∀ t, Steps p.tables e below (T166.setTop (mkF m 164 #[.val (.int p0), .val (.int p1), .val (.int p2), .val (.int p3), .val (.int bd), .val (.int sel), .val (.ref b2), .val (.int (4 : Int32)), .val (.int pk), .val (.int q), .val (.ref b142), .val (.int (0 : Int32))] [(.int (0 : Int32)), (.ref b2)])) t → Steps p.tables e below G0 t := by
      intro t kt
      refine K166 t ?_
      refine XS.iconst X166.here hx rfl (hb hby at_153) ?_
      show Steps p.tables e below (T166.setTop (mkF m 154 #[.val (.int p0), .val (.int p1), .val (.int p2), .val (.int p3), .val (.int bd), .val (.int sel), .val (.ref b2), .val (.int (4 : Int32)), .val (.int pk), .val (.int q), .val (.ref b142), .unset] [(.int (0 : Int32))])) _
      refine XS.istore X166.here hx rfl (hb hby at_154) rfl (l' := #[.val (.int p0), .val (.int p1), .val (.int p2), .val (.int p3), .val (.int bd), .val (.int sel), .val (.ref b2), .val (.int (4 : Int32)), .val (.int pk), .val (.int q), .val (.ref b142), .val (.int (0 : Int32))]) rfl ?_
      show Steps p.tables e below (T166.setTop (mkF m 156 #[.val (.int p0), .val (.int p1), .val (.int p2), .val (.int p3), .val (.int bd), .val (.int sel), .val (.ref b2), .val (.int (4 : Int32)), .val (.int pk), .val (.int q), .val (.ref b142), .val (.int (0 : Int32))] [])) _
      refine XS.iload X166.here hx rfl (hb hby at_156) rfl ?_
      show Steps p.tables e below (T166.setTop (mkF m 158 #[.val (.int p0), .val (.int p1), .val (.int p2), .val (.int p3), .val (.int bd), .val (.int sel), .val (.ref b2), .val (.int (4 : Int32)), .val (.int pk), .val (.int q), .val (.ref b142), .val (.int (0 : Int32))] [(.int (4 : Int32))])) _
      refine XS.ifNo X166.here hx rfl (hb hby at_158) rfl ((if0 _ _).trans (tlt (by decide)).2.2.2) ?_
      show Steps p.tables e below (T166.setTop (mkF m 161 #[.val (.int p0), .val (.int p1), .val (.int p2), .val (.int p3), .val (.int bd), .val (.int sel), .val (.ref b2), .val (.int (4 : Int32)), .val (.int pk), .val (.int q), .val (.ref b142), .val (.int (0 : Int32))] [])) _
      refine XS.aload X166.here hx rfl (hb hby at_161) rfl rfl ?_
      show Steps p.tables e below (T166.setTop (mkF m 163 #[.val (.int p0), .val (.int p1), .val (.int p2), .val (.int p3), .val (.int bd), .val (.int sel), .val (.ref b2), .val (.int (4 : Int32)), .val (.int pk), .val (.int q), .val (.ref b142), .val (.int (0 : Int32))] [(.ref b2)])) _
      refine XS.iconst X166.here hx rfl (hb hby at_163) ?_
      show Steps p.tables e below (T166.setTop (mkF m 164 #[.val (.int p0), .val (.int p1), .val (.int p2), .val (.int p3), .val (.int bd), .val (.int sel), .val (.ref b2), .val (.int (4 : Int32)), .val (.int pk), .val (.int q), .val (.ref b142), .val (.int (0 : Int32))] [(.int (0 : Int32)), (.ref b2)])) _
      exact kt
    have f168 := (f162.other W166 ne_b2_b142)
    obtain ⟨cl169, Ar169, qq169, S169, M169, H169, GG169⟩ := id f168
    have hin169 : ¬ ((0 : Int32) < 0 ∨ cl169.slots.size ≤ ((0 : Int32)).toNatClampNeg) := inb_of S169 ⟨by decide, by decide⟩
    have hat169 : cl169.slots[((0 : Int32)).toNatClampNeg]? = some (.int t0) := Has.at H169 hin169 rfl
    have K170 : ∀ t, Steps p.tables e below (T166.setTop (mkF m 167 #[.val (.int p0), .val (.int p1), .val (.int p2), .val (.int p3), .val (.int bd), .val (.int sel), .val (.ref b2), .val (.int (4 : Int32)), .val (.int pk), .val (.int q), .val (.ref b142), .val (.int (0 : Int32))] [(.int q), (.int t0)])) t → Steps p.tables e below G0 t := by
      intro t kt
      refine K167 t ?_
      refine X166.iaload hx (j := (0 : Int32)) (v := (.int t0)) (by rw [e166]; exact (Ar169).1) (State.isArrayOf_alike hZ.alike (Ar169).2.1) (Ar169).2.2 hin169 hat169 (g := (mkF m 164 #[.val (.int p0), .val (.int p1), .val (.int p2), .val (.int p3), .val (.int bd), .val (.int sel), .val (.ref b2), .val (.int (4 : Int32)), .val (.int pk), .val (.int q), .val (.ref b142), .val (.int (0 : Int32))] [(.int (0 : Int32)), (.ref b2)])) rfl rfl (hb hby at_164) _ ?_
      show Steps p.tables e below (T166.setTop (mkF m 165 #[.val (.int p0), .val (.int p1), .val (.int p2), .val (.int p3), .val (.int bd), .val (.int sel), .val (.ref b2), .val (.int (4 : Int32)), .val (.int pk), .val (.int q), .val (.ref b142), .val (.int (0 : Int32))] [(.int t0)])) _
      refine XS.iload X166.here hx rfl (hb hby at_165) rfl ?_
      show Steps p.tables e below (T166.setTop (mkF m 167 #[.val (.int p0), .val (.int p1), .val (.int p2), .val (.int p3), .val (.int bd), .val (.int sel), .val (.ref b2), .val (.int (4 : Int32)), .val (.int pk), .val (.int q), .val (.ref b142), .val (.int (0 : Int32))] [(.int q), (.int t0)])) _
      exact kt
    have K171 : ∀ t, Steps p.tables e below (T166.setTop (mkF m 173 #[.val (.int p0), .val (.int p1), .val (.int p2), .val (.int p3), .val (.int bd), .val (.int sel), .val (.ref b2), .val (.int (4 : Int32)), .val (.int pk), .val (.int q), .val (.ref b142), .val (.int (own_inc q t0 (0 : Int32)))] [])) t → Steps p.tables e below G0 t := by
      by_cases hc172 : q < t0
      ·
        have K173 : ∀ t, Steps p.tables e below (T166.setTop (mkF m 173 #[.val (.int p0), .val (.int p1), .val (.int p2), .val (.int p3), .val (.int bd), .val (.int sel), .val (.ref b2), .val (.int (4 : Int32)), .val (.int pk), .val (.int q), .val (.ref b142), .val (.int (0 : Int32))] [])) t → Steps p.tables e below G0 t := by
          intro t kt
          refine K170 t ?_
          refine XS.icmpYes X166.here hx rfl (pc0 := 167) (pc' := 173) rfl (hb hby at_167) rfl (tlt hc172).2.2.1 (by decide) (by decide) ?_
          show Steps p.tables e below (T166.setTop (mkF m 173 #[.val (.int p0), .val (.int p1), .val (.int p2), .val (.int p3), .val (.int bd), .val (.int sel), .val (.ref b2), .val (.int (4 : Int32)), .val (.int pk), .val (.int q), .val (.ref b142), .val (.int (0 : Int32))] [])) _
          exact kt
        rw [own_inc, if_pos hc172]
        exact K173
      ·
        have K174 : ∀ t, Steps p.tables e below (T166.setTop (mkF m 173 #[.val (.int p0), .val (.int p1), .val (.int p2), .val (.int p3), .val (.int bd), .val (.int sel), .val (.ref b2), .val (.int (4 : Int32)), .val (.int pk), .val (.int q), .val (.ref b142), .val (.int ((0 : Int32) + (1 : Int32)))] [])) t → Steps p.tables e below G0 t := by
          intro t kt
          refine K170 t ?_
          refine XS.icmpNo X166.here hx rfl (hb hby at_167) rfl (flt hc172).2.2.1 ?_
          show Steps p.tables e below (T166.setTop (mkF m 170 #[.val (.int p0), .val (.int p1), .val (.int p2), .val (.int p3), .val (.int bd), .val (.int sel), .val (.ref b2), .val (.int (4 : Int32)), .val (.int pk), .val (.int q), .val (.ref b142), .val (.int (0 : Int32))] [])) _
          refine XS.iinc X166.here hx rfl (hb hby at_170) rfl (l' := #[.val (.int p0), .val (.int p1), .val (.int p2), .val (.int p3), .val (.int bd), .val (.int sel), .val (.ref b2), .val (.int (4 : Int32)), .val (.int pk), .val (.int q), .val (.ref b142), .val (.int ((0 : Int32) + (1 : Int32)))]) rfl ?_
          show Steps p.tables e below (T166.setTop (mkF m 173 #[.val (.int p0), .val (.int p1), .val (.int p2), .val (.int p3), .val (.int bd), .val (.int sel), .val (.ref b2), .val (.int (4 : Int32)), .val (.int pk), .val (.int q), .val (.ref b142), .val (.int ((0 : Int32) + (1 : Int32)))] [])) _
          exact kt
        rw [own_inc, if_neg hc172]
        exact K174
    have K175 : ∀ t, Steps p.tables e below (T166.setTop (mkF m 182 #[.val (.int p0), .val (.int p1), .val (.int p2), .val (.int p3), .val (.int bd), .val (.int sel), .val (.ref b2), .val (.int (4 : Int32)), .val (.int pk), .val (.int q), .val (.ref b142), .val (.int (own_inc q t0 (0 : Int32)))] [(.int (1 : Int32)), (.ref b2)])) t → Steps p.tables e below G0 t := by
      intro t kt
      refine K171 t ?_
      refine XS.iload X166.here hx rfl (hb hby at_173) rfl ?_
      show Steps p.tables e below (T166.setTop (mkF m 175 #[.val (.int p0), .val (.int p1), .val (.int p2), .val (.int p3), .val (.int bd), .val (.int sel), .val (.ref b2), .val (.int (4 : Int32)), .val (.int pk), .val (.int q), .val (.ref b142), .val (.int (own_inc q t0 (0 : Int32)))] [(.int (4 : Int32))])) _
      refine XS.iconst X166.here hx rfl (hb hby at_175) ?_
      show Steps p.tables e below (T166.setTop (mkF m 176 #[.val (.int p0), .val (.int p1), .val (.int p2), .val (.int p3), .val (.int bd), .val (.int sel), .val (.ref b2), .val (.int (4 : Int32)), .val (.int pk), .val (.int q), .val (.ref b142), .val (.int (own_inc q t0 (0 : Int32)))] [(.int (1 : Int32)), (.int (4 : Int32))])) _
      refine XS.icmpNo X166.here hx rfl (hb hby at_176) rfl (tlt (by decide)).2.2.2 ?_
      show Steps p.tables e below (T166.setTop (mkF m 179 #[.val (.int p0), .val (.int p1), .val (.int p2), .val (.int p3), .val (.int bd), .val (.int sel), .val (.ref b2), .val (.int (4 : Int32)), .val (.int pk), .val (.int q), .val (.ref b142), .val (.int (own_inc q t0 (0 : Int32)))] [])) _
      refine XS.aload X166.here hx rfl (hb hby at_179) rfl rfl ?_
      show Steps p.tables e below (T166.setTop (mkF m 181 #[.val (.int p0), .val (.int p1), .val (.int p2), .val (.int p3), .val (.int bd), .val (.int sel), .val (.ref b2), .val (.int (4 : Int32)), .val (.int pk), .val (.int q), .val (.ref b142), .val (.int (own_inc q t0 (0 : Int32)))] [(.ref b2)])) _
      refine XS.iconst X166.here hx rfl (hb hby at_181) ?_
      show Steps p.tables e below (T166.setTop (mkF m 182 #[.val (.int p0), .val (.int p1), .val (.int p2), .val (.int p3), .val (.int bd), .val (.int sel), .val (.ref b2), .val (.int (4 : Int32)), .val (.int pk), .val (.int q), .val (.ref b142), .val (.int (own_inc q t0 (0 : Int32)))] [(.int (1 : Int32)), (.ref b2)])) _
      exact kt
    obtain ⟨cl176, Ar176, qq176, S176, M176, H176, GG176⟩ := id f168
    have hin176 : ¬ ((1 : Int32) < 0 ∨ cl176.slots.size ≤ ((1 : Int32)).toNatClampNeg) := inb_of S176 ⟨by decide, by decide⟩
    have hat176 : cl176.slots[((1 : Int32)).toNatClampNeg]? = some (.int u1) := Has.at H176 hin176 rfl
    have K177 : ∀ t, Steps p.tables e below (T166.setTop (mkF m 185 #[.val (.int p0), .val (.int p1), .val (.int p2), .val (.int p3), .val (.int bd), .val (.int sel), .val (.ref b2), .val (.int (4 : Int32)), .val (.int pk), .val (.int q), .val (.ref b142), .val (.int (own_inc q t0 (0 : Int32)))] [(.int q), (.int u1)])) t → Steps p.tables e below G0 t := by
      intro t kt
      refine K175 t ?_
      refine X166.iaload hx (j := (1 : Int32)) (v := (.int u1)) (by rw [e166]; exact (Ar176).1) (State.isArrayOf_alike hZ.alike (Ar176).2.1) (Ar176).2.2 hin176 hat176 (g := (mkF m 182 #[.val (.int p0), .val (.int p1), .val (.int p2), .val (.int p3), .val (.int bd), .val (.int sel), .val (.ref b2), .val (.int (4 : Int32)), .val (.int pk), .val (.int q), .val (.ref b142), .val (.int (own_inc q t0 (0 : Int32)))] [(.int (1 : Int32)), (.ref b2)])) rfl rfl (hb hby at_182) _ ?_
      show Steps p.tables e below (T166.setTop (mkF m 183 #[.val (.int p0), .val (.int p1), .val (.int p2), .val (.int p3), .val (.int bd), .val (.int sel), .val (.ref b2), .val (.int (4 : Int32)), .val (.int pk), .val (.int q), .val (.ref b142), .val (.int (own_inc q t0 (0 : Int32)))] [(.int u1)])) _
      refine XS.iload X166.here hx rfl (hb hby at_183) rfl ?_
      show Steps p.tables e below (T166.setTop (mkF m 185 #[.val (.int p0), .val (.int p1), .val (.int p2), .val (.int p3), .val (.int bd), .val (.int sel), .val (.ref b2), .val (.int (4 : Int32)), .val (.int pk), .val (.int q), .val (.ref b142), .val (.int (own_inc q t0 (0 : Int32)))] [(.int q), (.int u1)])) _
      exact kt
    have K178 : ∀ t, Steps p.tables e below (T166.setTop (mkF m 191 #[.val (.int p0), .val (.int p1), .val (.int p2), .val (.int p3), .val (.int bd), .val (.int sel), .val (.ref b2), .val (.int (4 : Int32)), .val (.int pk), .val (.int q), .val (.ref b142), .val (.int (own_inc q u1 (own_inc q t0 (0 : Int32))))] [])) t → Steps p.tables e below G0 t := by
      by_cases hc179 : q < u1
      ·
        have K180 : ∀ t, Steps p.tables e below (T166.setTop (mkF m 191 #[.val (.int p0), .val (.int p1), .val (.int p2), .val (.int p3), .val (.int bd), .val (.int sel), .val (.ref b2), .val (.int (4 : Int32)), .val (.int pk), .val (.int q), .val (.ref b142), .val (.int (own_inc q t0 (0 : Int32)))] [])) t → Steps p.tables e below G0 t := by
          intro t kt
          refine K177 t ?_
          refine XS.icmpYes X166.here hx rfl (pc0 := 185) (pc' := 191) rfl (hb hby at_185) rfl (tlt hc179).2.2.1 (by decide) (by decide) ?_
          show Steps p.tables e below (T166.setTop (mkF m 191 #[.val (.int p0), .val (.int p1), .val (.int p2), .val (.int p3), .val (.int bd), .val (.int sel), .val (.ref b2), .val (.int (4 : Int32)), .val (.int pk), .val (.int q), .val (.ref b142), .val (.int (own_inc q t0 (0 : Int32)))] [])) _
          exact kt
        rw [own_inc, if_pos hc179]
        exact K180
      ·
        have K181 : ∀ t, Steps p.tables e below (T166.setTop (mkF m 191 #[.val (.int p0), .val (.int p1), .val (.int p2), .val (.int p3), .val (.int bd), .val (.int sel), .val (.ref b2), .val (.int (4 : Int32)), .val (.int pk), .val (.int q), .val (.ref b142), .val (.int ((own_inc q t0 (0 : Int32)) + (1 : Int32)))] [])) t → Steps p.tables e below G0 t := by
          intro t kt
          refine K177 t ?_
          refine XS.icmpNo X166.here hx rfl (hb hby at_185) rfl (flt hc179).2.2.1 ?_
          show Steps p.tables e below (T166.setTop (mkF m 188 #[.val (.int p0), .val (.int p1), .val (.int p2), .val (.int p3), .val (.int bd), .val (.int sel), .val (.ref b2), .val (.int (4 : Int32)), .val (.int pk), .val (.int q), .val (.ref b142), .val (.int (own_inc q t0 (0 : Int32)))] [])) _
          refine XS.iinc X166.here hx rfl (hb hby at_188) rfl (l' := #[.val (.int p0), .val (.int p1), .val (.int p2), .val (.int p3), .val (.int bd), .val (.int sel), .val (.ref b2), .val (.int (4 : Int32)), .val (.int pk), .val (.int q), .val (.ref b142), .val (.int ((own_inc q t0 (0 : Int32)) + (1 : Int32)))]) rfl ?_
          show Steps p.tables e below (T166.setTop (mkF m 191 #[.val (.int p0), .val (.int p1), .val (.int p2), .val (.int p3), .val (.int bd), .val (.int sel), .val (.ref b2), .val (.int (4 : Int32)), .val (.int pk), .val (.int q), .val (.ref b142), .val (.int ((own_inc q t0 (0 : Int32)) + (1 : Int32)))] [])) _
          exact kt
        rw [own_inc, if_neg hc179]
        exact K181
    have K182 : ∀ t, Steps p.tables e below (T166.setTop (mkF m 200 #[.val (.int p0), .val (.int p1), .val (.int p2), .val (.int p3), .val (.int bd), .val (.int sel), .val (.ref b2), .val (.int (4 : Int32)), .val (.int pk), .val (.int q), .val (.ref b142), .val (.int (own_inc q u1 (own_inc q t0 (0 : Int32))))] [(.int (2 : Int32)), (.ref b2)])) t → Steps p.tables e below G0 t := by
      intro t kt
      refine K178 t ?_
      refine XS.iload X166.here hx rfl (hb hby at_191) rfl ?_
      show Steps p.tables e below (T166.setTop (mkF m 193 #[.val (.int p0), .val (.int p1), .val (.int p2), .val (.int p3), .val (.int bd), .val (.int sel), .val (.ref b2), .val (.int (4 : Int32)), .val (.int pk), .val (.int q), .val (.ref b142), .val (.int (own_inc q u1 (own_inc q t0 (0 : Int32))))] [(.int (4 : Int32))])) _
      refine XS.iconst X166.here hx rfl (hb hby at_193) ?_
      show Steps p.tables e below (T166.setTop (mkF m 194 #[.val (.int p0), .val (.int p1), .val (.int p2), .val (.int p3), .val (.int bd), .val (.int sel), .val (.ref b2), .val (.int (4 : Int32)), .val (.int pk), .val (.int q), .val (.ref b142), .val (.int (own_inc q u1 (own_inc q t0 (0 : Int32))))] [(.int (2 : Int32)), (.int (4 : Int32))])) _
      refine XS.icmpNo X166.here hx rfl (hb hby at_194) rfl (tlt (by decide)).2.2.2 ?_
      show Steps p.tables e below (T166.setTop (mkF m 197 #[.val (.int p0), .val (.int p1), .val (.int p2), .val (.int p3), .val (.int bd), .val (.int sel), .val (.ref b2), .val (.int (4 : Int32)), .val (.int pk), .val (.int q), .val (.ref b142), .val (.int (own_inc q u1 (own_inc q t0 (0 : Int32))))] [])) _
      refine XS.aload X166.here hx rfl (hb hby at_197) rfl rfl ?_
      show Steps p.tables e below (T166.setTop (mkF m 199 #[.val (.int p0), .val (.int p1), .val (.int p2), .val (.int p3), .val (.int bd), .val (.int sel), .val (.ref b2), .val (.int (4 : Int32)), .val (.int pk), .val (.int q), .val (.ref b142), .val (.int (own_inc q u1 (own_inc q t0 (0 : Int32))))] [(.ref b2)])) _
      refine XS.iconst X166.here hx rfl (hb hby at_199) ?_
      show Steps p.tables e below (T166.setTop (mkF m 200 #[.val (.int p0), .val (.int p1), .val (.int p2), .val (.int p3), .val (.int bd), .val (.int sel), .val (.ref b2), .val (.int (4 : Int32)), .val (.int pk), .val (.int q), .val (.ref b142), .val (.int (own_inc q u1 (own_inc q t0 (0 : Int32))))] [(.int (2 : Int32)), (.ref b2)])) _
      exact kt
    obtain ⟨cl183, Ar183, qq183, S183, M183, H183, GG183⟩ := id f168
    have hin183 : ¬ ((2 : Int32) < 0 ∨ cl183.slots.size ≤ ((2 : Int32)).toNatClampNeg) := inb_of S183 ⟨by decide, by decide⟩
    have hat183 : cl183.slots[((2 : Int32)).toNatClampNeg]? = some (.int u2) := Has.at H183 hin183 rfl
    have K184 : ∀ t, Steps p.tables e below (T166.setTop (mkF m 203 #[.val (.int p0), .val (.int p1), .val (.int p2), .val (.int p3), .val (.int bd), .val (.int sel), .val (.ref b2), .val (.int (4 : Int32)), .val (.int pk), .val (.int q), .val (.ref b142), .val (.int (own_inc q u1 (own_inc q t0 (0 : Int32))))] [(.int q), (.int u2)])) t → Steps p.tables e below G0 t := by
      intro t kt
      refine K182 t ?_
      refine X166.iaload hx (j := (2 : Int32)) (v := (.int u2)) (by rw [e166]; exact (Ar183).1) (State.isArrayOf_alike hZ.alike (Ar183).2.1) (Ar183).2.2 hin183 hat183 (g := (mkF m 200 #[.val (.int p0), .val (.int p1), .val (.int p2), .val (.int p3), .val (.int bd), .val (.int sel), .val (.ref b2), .val (.int (4 : Int32)), .val (.int pk), .val (.int q), .val (.ref b142), .val (.int (own_inc q u1 (own_inc q t0 (0 : Int32))))] [(.int (2 : Int32)), (.ref b2)])) rfl rfl (hb hby at_200) _ ?_
      show Steps p.tables e below (T166.setTop (mkF m 201 #[.val (.int p0), .val (.int p1), .val (.int p2), .val (.int p3), .val (.int bd), .val (.int sel), .val (.ref b2), .val (.int (4 : Int32)), .val (.int pk), .val (.int q), .val (.ref b142), .val (.int (own_inc q u1 (own_inc q t0 (0 : Int32))))] [(.int u2)])) _
      refine XS.iload X166.here hx rfl (hb hby at_201) rfl ?_
      show Steps p.tables e below (T166.setTop (mkF m 203 #[.val (.int p0), .val (.int p1), .val (.int p2), .val (.int p3), .val (.int bd), .val (.int sel), .val (.ref b2), .val (.int (4 : Int32)), .val (.int pk), .val (.int q), .val (.ref b142), .val (.int (own_inc q u1 (own_inc q t0 (0 : Int32))))] [(.int q), (.int u2)])) _
      exact kt
    have K185 : ∀ t, Steps p.tables e below (T166.setTop (mkF m 209 #[.val (.int p0), .val (.int p1), .val (.int p2), .val (.int p3), .val (.int bd), .val (.int sel), .val (.ref b2), .val (.int (4 : Int32)), .val (.int pk), .val (.int q), .val (.ref b142), .val (.int (own_inc q u2 (own_inc q u1 (own_inc q t0 (0 : Int32)))))] [])) t → Steps p.tables e below G0 t := by
      by_cases hc186 : q < u2
      ·
        have K187 : ∀ t, Steps p.tables e below (T166.setTop (mkF m 209 #[.val (.int p0), .val (.int p1), .val (.int p2), .val (.int p3), .val (.int bd), .val (.int sel), .val (.ref b2), .val (.int (4 : Int32)), .val (.int pk), .val (.int q), .val (.ref b142), .val (.int (own_inc q u1 (own_inc q t0 (0 : Int32))))] [])) t → Steps p.tables e below G0 t := by
          intro t kt
          refine K184 t ?_
          refine XS.icmpYes X166.here hx rfl (pc0 := 203) (pc' := 209) rfl (hb hby at_203) rfl (tlt hc186).2.2.1 (by decide) (by decide) ?_
          show Steps p.tables e below (T166.setTop (mkF m 209 #[.val (.int p0), .val (.int p1), .val (.int p2), .val (.int p3), .val (.int bd), .val (.int sel), .val (.ref b2), .val (.int (4 : Int32)), .val (.int pk), .val (.int q), .val (.ref b142), .val (.int (own_inc q u1 (own_inc q t0 (0 : Int32))))] [])) _
          exact kt
        rw [own_inc, if_pos hc186]
        exact K187
      ·
        have K188 : ∀ t, Steps p.tables e below (T166.setTop (mkF m 209 #[.val (.int p0), .val (.int p1), .val (.int p2), .val (.int p3), .val (.int bd), .val (.int sel), .val (.ref b2), .val (.int (4 : Int32)), .val (.int pk), .val (.int q), .val (.ref b142), .val (.int ((own_inc q u1 (own_inc q t0 (0 : Int32))) + (1 : Int32)))] [])) t → Steps p.tables e below G0 t := by
          intro t kt
          refine K184 t ?_
          refine XS.icmpNo X166.here hx rfl (hb hby at_203) rfl (flt hc186).2.2.1 ?_
          show Steps p.tables e below (T166.setTop (mkF m 206 #[.val (.int p0), .val (.int p1), .val (.int p2), .val (.int p3), .val (.int bd), .val (.int sel), .val (.ref b2), .val (.int (4 : Int32)), .val (.int pk), .val (.int q), .val (.ref b142), .val (.int (own_inc q u1 (own_inc q t0 (0 : Int32))))] [])) _
          refine XS.iinc X166.here hx rfl (hb hby at_206) rfl (l' := #[.val (.int p0), .val (.int p1), .val (.int p2), .val (.int p3), .val (.int bd), .val (.int sel), .val (.ref b2), .val (.int (4 : Int32)), .val (.int pk), .val (.int q), .val (.ref b142), .val (.int ((own_inc q u1 (own_inc q t0 (0 : Int32))) + (1 : Int32)))]) rfl ?_
          show Steps p.tables e below (T166.setTop (mkF m 209 #[.val (.int p0), .val (.int p1), .val (.int p2), .val (.int p3), .val (.int bd), .val (.int sel), .val (.ref b2), .val (.int (4 : Int32)), .val (.int pk), .val (.int q), .val (.ref b142), .val (.int ((own_inc q u1 (own_inc q t0 (0 : Int32))) + (1 : Int32)))] [])) _
          exact kt
        rw [own_inc, if_neg hc186]
        exact K188
    have K189 : ∀ t, Steps p.tables e below (T166.setTop (mkF m 218 #[.val (.int p0), .val (.int p1), .val (.int p2), .val (.int p3), .val (.int bd), .val (.int sel), .val (.ref b2), .val (.int (4 : Int32)), .val (.int pk), .val (.int q), .val (.ref b142), .val (.int (own_inc q u2 (own_inc q u1 (own_inc q t0 (0 : Int32)))))] [(.int (3 : Int32)), (.ref b2)])) t → Steps p.tables e below G0 t := by
      intro t kt
      refine K185 t ?_
      refine XS.iload X166.here hx rfl (hb hby at_209) rfl ?_
      show Steps p.tables e below (T166.setTop (mkF m 211 #[.val (.int p0), .val (.int p1), .val (.int p2), .val (.int p3), .val (.int bd), .val (.int sel), .val (.ref b2), .val (.int (4 : Int32)), .val (.int pk), .val (.int q), .val (.ref b142), .val (.int (own_inc q u2 (own_inc q u1 (own_inc q t0 (0 : Int32)))))] [(.int (4 : Int32))])) _
      refine XS.iconst X166.here hx rfl (hb hby at_211) ?_
      show Steps p.tables e below (T166.setTop (mkF m 212 #[.val (.int p0), .val (.int p1), .val (.int p2), .val (.int p3), .val (.int bd), .val (.int sel), .val (.ref b2), .val (.int (4 : Int32)), .val (.int pk), .val (.int q), .val (.ref b142), .val (.int (own_inc q u2 (own_inc q u1 (own_inc q t0 (0 : Int32)))))] [(.int (3 : Int32)), (.int (4 : Int32))])) _
      refine XS.icmpNo X166.here hx rfl (hb hby at_212) rfl (tlt (by decide)).2.2.2 ?_
      show Steps p.tables e below (T166.setTop (mkF m 215 #[.val (.int p0), .val (.int p1), .val (.int p2), .val (.int p3), .val (.int bd), .val (.int sel), .val (.ref b2), .val (.int (4 : Int32)), .val (.int pk), .val (.int q), .val (.ref b142), .val (.int (own_inc q u2 (own_inc q u1 (own_inc q t0 (0 : Int32)))))] [])) _
      refine XS.aload X166.here hx rfl (hb hby at_215) rfl rfl ?_
      show Steps p.tables e below (T166.setTop (mkF m 217 #[.val (.int p0), .val (.int p1), .val (.int p2), .val (.int p3), .val (.int bd), .val (.int sel), .val (.ref b2), .val (.int (4 : Int32)), .val (.int pk), .val (.int q), .val (.ref b142), .val (.int (own_inc q u2 (own_inc q u1 (own_inc q t0 (0 : Int32)))))] [(.ref b2)])) _
      refine XS.iconst X166.here hx rfl (hb hby at_217) ?_
      show Steps p.tables e below (T166.setTop (mkF m 218 #[.val (.int p0), .val (.int p1), .val (.int p2), .val (.int p3), .val (.int bd), .val (.int sel), .val (.ref b2), .val (.int (4 : Int32)), .val (.int pk), .val (.int q), .val (.ref b142), .val (.int (own_inc q u2 (own_inc q u1 (own_inc q t0 (0 : Int32)))))] [(.int (3 : Int32)), (.ref b2)])) _
      exact kt
    obtain ⟨cl190, Ar190, qq190, S190, M190, H190, GG190⟩ := id f168
    have hin190 : ¬ ((3 : Int32) < 0 ∨ cl190.slots.size ≤ ((3 : Int32)).toNatClampNeg) := inb_of S190 ⟨by decide, by decide⟩
    have hat190 : cl190.slots[((3 : Int32)).toNatClampNeg]? = some (.int t3) := Has.at H190 hin190 rfl
    have K191 : ∀ t, Steps p.tables e below (T166.setTop (mkF m 221 #[.val (.int p0), .val (.int p1), .val (.int p2), .val (.int p3), .val (.int bd), .val (.int sel), .val (.ref b2), .val (.int (4 : Int32)), .val (.int pk), .val (.int q), .val (.ref b142), .val (.int (own_inc q u2 (own_inc q u1 (own_inc q t0 (0 : Int32)))))] [(.int q), (.int t3)])) t → Steps p.tables e below G0 t := by
      intro t kt
      refine K189 t ?_
      refine X166.iaload hx (j := (3 : Int32)) (v := (.int t3)) (by rw [e166]; exact (Ar190).1) (State.isArrayOf_alike hZ.alike (Ar190).2.1) (Ar190).2.2 hin190 hat190 (g := (mkF m 218 #[.val (.int p0), .val (.int p1), .val (.int p2), .val (.int p3), .val (.int bd), .val (.int sel), .val (.ref b2), .val (.int (4 : Int32)), .val (.int pk), .val (.int q), .val (.ref b142), .val (.int (own_inc q u2 (own_inc q u1 (own_inc q t0 (0 : Int32)))))] [(.int (3 : Int32)), (.ref b2)])) rfl rfl (hb hby at_218) _ ?_
      show Steps p.tables e below (T166.setTop (mkF m 219 #[.val (.int p0), .val (.int p1), .val (.int p2), .val (.int p3), .val (.int bd), .val (.int sel), .val (.ref b2), .val (.int (4 : Int32)), .val (.int pk), .val (.int q), .val (.ref b142), .val (.int (own_inc q u2 (own_inc q u1 (own_inc q t0 (0 : Int32)))))] [(.int t3)])) _
      refine XS.iload X166.here hx rfl (hb hby at_219) rfl ?_
      show Steps p.tables e below (T166.setTop (mkF m 221 #[.val (.int p0), .val (.int p1), .val (.int p2), .val (.int p3), .val (.int bd), .val (.int sel), .val (.ref b2), .val (.int (4 : Int32)), .val (.int pk), .val (.int q), .val (.ref b142), .val (.int (own_inc q u2 (own_inc q u1 (own_inc q t0 (0 : Int32)))))] [(.int q), (.int t3)])) _
      exact kt
    have K192 : ∀ t, Steps p.tables e below (T166.setTop (mkF m 227 #[.val (.int p0), .val (.int p1), .val (.int p2), .val (.int p3), .val (.int bd), .val (.int sel), .val (.ref b2), .val (.int (4 : Int32)), .val (.int pk), .val (.int q), .val (.ref b142), .val (.int (own_inc q t3 (own_inc q u2 (own_inc q u1 (own_inc q t0 (0 : Int32))))))] [])) t → Steps p.tables e below G0 t := by
      by_cases hc193 : q < t3
      ·
        have K194 : ∀ t, Steps p.tables e below (T166.setTop (mkF m 227 #[.val (.int p0), .val (.int p1), .val (.int p2), .val (.int p3), .val (.int bd), .val (.int sel), .val (.ref b2), .val (.int (4 : Int32)), .val (.int pk), .val (.int q), .val (.ref b142), .val (.int (own_inc q u2 (own_inc q u1 (own_inc q t0 (0 : Int32)))))] [])) t → Steps p.tables e below G0 t := by
          intro t kt
          refine K191 t ?_
          refine XS.icmpYes X166.here hx rfl (pc0 := 221) (pc' := 227) rfl (hb hby at_221) rfl (tlt hc193).2.2.1 (by decide) (by decide) ?_
          show Steps p.tables e below (T166.setTop (mkF m 227 #[.val (.int p0), .val (.int p1), .val (.int p2), .val (.int p3), .val (.int bd), .val (.int sel), .val (.ref b2), .val (.int (4 : Int32)), .val (.int pk), .val (.int q), .val (.ref b142), .val (.int (own_inc q u2 (own_inc q u1 (own_inc q t0 (0 : Int32)))))] [])) _
          exact kt
        rw [own_inc, if_pos hc193]
        exact K194
      ·
        have K195 : ∀ t, Steps p.tables e below (T166.setTop (mkF m 227 #[.val (.int p0), .val (.int p1), .val (.int p2), .val (.int p3), .val (.int bd), .val (.int sel), .val (.ref b2), .val (.int (4 : Int32)), .val (.int pk), .val (.int q), .val (.ref b142), .val (.int ((own_inc q u2 (own_inc q u1 (own_inc q t0 (0 : Int32)))) + (1 : Int32)))] [])) t → Steps p.tables e below G0 t := by
          intro t kt
          refine K191 t ?_
          refine XS.icmpNo X166.here hx rfl (hb hby at_221) rfl (flt hc193).2.2.1 ?_
          show Steps p.tables e below (T166.setTop (mkF m 224 #[.val (.int p0), .val (.int p1), .val (.int p2), .val (.int p3), .val (.int bd), .val (.int sel), .val (.ref b2), .val (.int (4 : Int32)), .val (.int pk), .val (.int q), .val (.ref b142), .val (.int (own_inc q u2 (own_inc q u1 (own_inc q t0 (0 : Int32)))))] [])) _
          refine XS.iinc X166.here hx rfl (hb hby at_224) rfl (l' := #[.val (.int p0), .val (.int p1), .val (.int p2), .val (.int p3), .val (.int bd), .val (.int sel), .val (.ref b2), .val (.int (4 : Int32)), .val (.int pk), .val (.int q), .val (.ref b142), .val (.int ((own_inc q u2 (own_inc q u1 (own_inc q t0 (0 : Int32)))) + (1 : Int32)))]) rfl ?_
          show Steps p.tables e below (T166.setTop (mkF m 227 #[.val (.int p0), .val (.int p1), .val (.int p2), .val (.int p3), .val (.int bd), .val (.int sel), .val (.ref b2), .val (.int (4 : Int32)), .val (.int pk), .val (.int q), .val (.ref b142), .val (.int ((own_inc q u2 (own_inc q u1 (own_inc q t0 (0 : Int32)))) + (1 : Int32)))] [])) _
          exact kt
        rw [own_inc, if_neg hc193]
        exact K195
    have K196 : ∀ t, Steps p.tables e below (T166.setTop (mkF m 231 #[.val (.int p0), .val (.int p1), .val (.int p2), .val (.int p3), .val (.int bd), .val (.int sel), .val (.ref b2), .val (.int (4 : Int32)), .val (.int pk), .val (.int q), .val (.ref b142), .val (.int (own_inc q t3 (own_inc q u2 (own_inc q u1 (own_inc q t0 (0 : Int32))))))] [(.int q), (.ref b142)])) t → Steps p.tables e below G0 t := by
      intro t kt
      refine K192 t ?_
      refine XS.aload X166.here hx rfl (hb hby at_227) rfl rfl ?_
      show Steps p.tables e below (T166.setTop (mkF m 229 #[.val (.int p0), .val (.int p1), .val (.int p2), .val (.int p3), .val (.int bd), .val (.int sel), .val (.ref b2), .val (.int (4 : Int32)), .val (.int pk), .val (.int q), .val (.ref b142), .val (.int (own_inc q t3 (own_inc q u2 (own_inc q u1 (own_inc q t0 (0 : Int32))))))] [(.ref b142)])) _
      refine XS.iload X166.here hx rfl (hb hby at_229) rfl ?_
      show Steps p.tables e below (T166.setTop (mkF m 231 #[.val (.int p0), .val (.int p1), .val (.int p2), .val (.int p3), .val (.int bd), .val (.int sel), .val (.ref b2), .val (.int (4 : Int32)), .val (.int pk), .val (.int q), .val (.ref b142), .val (.int (own_inc q t3 (own_inc q u2 (own_inc q u1 (own_inc q t0 (0 : Int32))))))] [(.int q), (.ref b142)])) _
      exact kt
    obtain ⟨_, _, ⟨T197, L197, k197, n197⟩, -, X197, ⟨Lc197, hQ197, l197, y197, z197⟩, st197⟩ := Jvm.LawKit.callS X166 hx (y := (⟨"com/example/lichen/lichen/analysis/Runs", "countUpTo", "([II)I"⟩ : MethodName)) hown (mvT hZ (hw _ (List.mem_of_getElem? (i := 6) rfl))) (mvT hZ (hw _ (List.mem_of_getElem? (i := 7) rfl))) (mvT hZ (hw _ (List.mem_of_getElem? (i := 8) rfl))) (mvT hZ (hw _ (List.mem_of_getElem? (i := 9) rfl))) (by decide) (backOf (W := 0) (rm2_4 l Z aa hw [] (b142) (q) _ t0 u1 u2 t3 h166 n0 Z166 VL166 hsort.1 hsort.2.1 hsort.2.2) hZ (hw _ (List.mem_of_getElem? (i := 9) rfl)) (hw _ (List.mem_of_getElem? (i := 8) rfl)) (by decide) (by decide)) (g := (mkF m 231 #[.val (.int p0), .val (.int p1), .val (.int p2), .val (.int p3), .val (.int bd), .val (.int sel), .val (.ref b2), .val (.int (4 : Int32)), .val (.int pk), .val (.int q), .val (.ref b142), .val (.int (own_inc q t3 (own_inc q u2 (own_inc q u1 (own_inc q t0 (0 : Int32))))))] [(.int q), (.ref b142)])) rfl (by rw [hml]; rfl) (argsL := [(.ref b142), (.int q)]) (rest := []) (lenOf pd_P_IIQI rfl) rfl (by show 2 * 0 + _ ≤ _; exact Nat.le_of_eq rfl) (hb hby at_231) (fun _ _ => ⟨rfl, e166, (by decide : 2 + 0 ≤ _), (by decide : 8 + 0 ≤ _)⟩)
    dsimp only [Pt.U, Pt.locs, Pt.cells, Pt.slots] at X197 l197 y197 z197 st197 hQ197
    subst l197 y197 z197
    obtain ⟨rfl, N197q, e197⟩ := hQ197
    have N197 := Fr.app N166 N197q
    have K197 : ∀ t, Steps p.tables e below (T197.setTop (mkF m 234 #[.val (.int p0), .val (.int p1), .val (.int p2), .val (.int p3), .val (.int bd), .val (.int sel), .val (.ref b2), .val (.int (4 : Int32)), .val (.int pk), .val (.int q), .val (.ref b142), .val (.int (own_inc q t3 (own_inc q u2 (own_inc q u1 (own_inc q t0 (0 : Int32))))))] [(.int (own_inc q t3 (own_inc q u2 (own_inc q u1 (own_inc q t0 (0 : Int32))))))])) t → Steps p.tables e below G0 t := fun t kt => K196 t (st197 _ kt)
    have K198 : ∀ t, Steps p.tables e below (T197.setTop (mkF m 244 #[.val (.int p0), .val (.int p1), .val (.int p2), .val (.int p3), .val (.int bd), .val (.int sel), .val (.ref b2), .val (.int (4 : Int32)), .val (.int pk), .val (.int q), .val (.ref b142), .val (.int (own_inc q t3 (own_inc q u2 (own_inc q u1 (own_inc q t0 (0 : Int32))))))] [(.int (1 : Int32))])) t → Steps p.tables e below G0 t := by
      intro t kt
      refine K197 t ?_
      refine XS.iload X197.here hx rfl (hb hby at_234) rfl ?_
      show Steps p.tables e below (T197.setTop (mkF m 236 #[.val (.int p0), .val (.int p1), .val (.int p2), .val (.int p3), .val (.int bd), .val (.int sel), .val (.ref b2), .val (.int (4 : Int32)), .val (.int pk), .val (.int q), .val (.ref b142), .val (.int (own_inc q t3 (own_inc q u2 (own_inc q u1 (own_inc q t0 (0 : Int32))))))] [(.int (own_inc q t3 (own_inc q u2 (own_inc q u1 (own_inc q t0 (0 : Int32)))))), (.int (own_inc q t3 (own_inc q u2 (own_inc q u1 (own_inc q t0 (0 : Int32))))))])) _
      refine XS.icmpNo X197.here hx rfl (hb hby at_236) rfl (teq rfl).2 ?_
      show Steps p.tables e below (T197.setTop (mkF m 239 #[.val (.int p0), .val (.int p1), .val (.int p2), .val (.int p3), .val (.int bd), .val (.int sel), .val (.ref b2), .val (.int (4 : Int32)), .val (.int pk), .val (.int q), .val (.ref b142), .val (.int (own_inc q t3 (own_inc q u2 (own_inc q u1 (own_inc q t0 (0 : Int32))))))] [])) _
      refine XS.iconst X197.here hx rfl (hb hby at_239) ?_
      show Steps p.tables e below (T197.setTop (mkF m 240 #[.val (.int p0), .val (.int p1), .val (.int p2), .val (.int p3), .val (.int bd), .val (.int sel), .val (.ref b2), .val (.int (4 : Int32)), .val (.int pk), .val (.int q), .val (.ref b142), .val (.int (own_inc q t3 (own_inc q u2 (own_inc q u1 (own_inc q t0 (0 : Int32))))))] [(.int (1 : Int32))])) _
      refine XS.goto X197.here hx rfl (pc0 := 240) (pc' := 244) rfl (hb hby at_240) (by decide) (by decide) ?_
      show Steps p.tables e below (T197.setTop (mkF m 244 #[.val (.int p0), .val (.int p1), .val (.int p2), .val (.int p3), .val (.int bd), .val (.int sel), .val (.ref b2), .val (.int (4 : Int32)), .val (.int pk), .val (.int q), .val (.ref b142), .val (.int (own_inc q t3 (own_inc q u2 (own_inc q u1 (own_inc q t0 (0 : Int32))))))] [(.int (1 : Int32))])) _
      exact kt
    obtain ⟨fs, hr, hrun, hended, hW, hsame⟩ := X197.leave (v := some (.int (1 : Int32))) (fun h => by rw [Bd.returns] at h; cases h)
    refine ⟨_, _, ?_, hrun, hended, _, _, rfl, ?_, ⟨_, rfl⟩, hW, hsame.mono (by decide) (by decide)⟩
    · rw [← hG0]
      refine K198 _ ?_
      exact retN X197 hx (t := .boolean) Bd.returns (by simp) (hb hby at_244) hr
    · show Q0 Z p0 p1 p2 p3 bd sel h0 n0 _ T197.heap _
      rw [e197]
      exact ⟨rfl, N197⟩
set_option maxRecDepth 65536 in
set_option maxHeartbeats 40000000 in
theorem comes_1 {Post : Tables → Env → Array Value → State → Outcome → State → Prop} (hpost : ∀ tb e args s v u, (limb_1_1.after args s (.returned v) u = true ∧ limb_1_2.after args s (.returned v) u = true ∧ True) → FrameEnd s (.returned v) u (Jvm.fieldLocs frame_1_writes args s ++ Jvm.arrayLocs frame_1_arrays args s ++ Jvm.staticLocs frame_1_statics s) 16 128 → Post tb e args s (.returned v) u) :
    ArmFor flags0 classFile x code maxLocals ret World_1 tables_1 room_1 Calls_1 rest_1 Pre_1 Post := by
  intro l hfl _ _ p e ha hc hk s m args below hf hA hF happ hP
  obtain ⟨hcalls, hrest, hpre⟩ := hP
  obtain ⟨-, -, -, hnamed, -, -, -, hat⟩ := (Spec.applies_iff hf).mp happ
  obtain ⟨hg, hn⟩ := and_e (Cond.before_iff.mp (show (Jvm.Cond.and given_1 narrow_1).before args s = true from hpre))
  obtain ⟨g1, g2⟩ := and_e hg
  obtain ⟨g3, g4⟩ := and_e g2
  obtain ⟨g5, g6⟩ := and_e g4
  obtain ⟨g7, g8⟩ := and_e g6
  obtain ⟨g9, g10⟩ := and_e g8
  obtain ⟨g11, g12⟩ := and_e g10
  obtain ⟨w0, w1, w2, w3, w4, w5, rfl⟩ : ∃ w0 w1 w2 w3 w4 w5 : Value, args = #[w0, w1, w2, w3, w4, w5] := by
    have hs : args.size = 6 := by simpa [Cond.value, given_1] using g1
    obtain ⟨L⟩ := args
    match L, hs with
    | [w0, w1, w2, w3, w4, w5], _ => exact ⟨w0, w1, w2, w3, w4, w5, rfl⟩
  have hw := fun d (hd : d ∈ tables_1) => atoms_spec (ws := Jvm.Cond.code x code maxLocals ret :: tables_1) hat d (List.mem_cons_of_mem _ hd)
  have hfit : Fit s := fun {y c} hc i hi => by
    obtain ⟨ha, rfl⟩ := Array.getElem?_eq_some_iff.mp hc
    have q := List.all_eq_true.mp ((Array.all_eq_true_iff_forall_mem.mp hF) _ (Array.getElem_mem ha)) i (List.mem_range.mpr hi)
    simpa [Array.getElem?_eq_getElem hi] using q
  obtain ⟨i0, ei0⟩ := is_v g3
  obtain rfl : w0 = (.int i0) := Option.some.inj ei0
  obtain ⟨i1, ei1⟩ := is_v g5
  obtain rfl : w1 = (.int i1) := Option.some.inj ei1
  obtain ⟨i2, ei2⟩ := is_v g7
  obtain rfl : w2 = (.int i2) := Option.some.inj ei2
  obtain ⟨i3, ei3⟩ := is_v g9
  obtain rfl : w3 = (.int i3) := Option.some.inj ei3
  obtain ⟨i4, ei4⟩ := is_v g11
  obtain rfl : w4 = (.int i4) := Option.some.inj ei4
  obtain ⟨i5, ei5⟩ := is_v g12
  obtain rfl : w5 = (.int i5) := Option.some.inj ei5
  obtain ⟨n, o, h1, h2, h3, _, L, rfl, ⟨rfl, N⟩, hq⟩ := rm0 l s _ hw tables_1 i0 i1 i2 i3 i4 i5  s.heap s.heap.size (Nat.le_refl _)  p e ha hc hk s m _ below hf ((Spec.applies_iff_loose hf).mp happ).1 ⟨rfl, State.Warmed39.refl s, rfl⟩ trivial
  refine ⟨n, _, h1, h2, h3, hpost _ _ _ _ _ _ ⟨Cond.after_iff.mpr rfl, Cond.after_iff.mpr (eq_i res_at (Term.int_eval (1)) rfl), trivial⟩ ⟨hq.1, hq.2.1, (hq.2.2.sift fun y hy => Or.inr (N y hy)).mono (by decide) (by decide)⟩⟩
theorem main_1_1 : Claimed_1_1 := comes_1 fun _ _ _ _ _ _ h hF => ⟨h.1, hF⟩
theorem main_1_2 : Claimed_1_2 := comes_1 fun _ _ _ _ _ _ h hF => ⟨h.2.1, hF⟩
end Jvm.Pilot.@@N@@
namespace Jvm.Pilot.@@N@@
open Jvm Jvm.ClassFile Sem Op Lib Jvm.Free Jvm.Stand Jvm.Pilot.@@N@@.Jvm.D
/-! MADE BY PROGRAM (witnessworld.py) out of the Statement's table words and the real class files: 9 classes; the members and pool entries that the words name. The judged class is class 1, her method 1. -/
namespace start1
open Jvm.ClassFile
def u (s : String) : CpInfo := .utf8 (stringToUtf16 s)
/-- a pool by its gaps: so many unusable entries, then the entry; so many at the end -/
def gap : Nat → List CpInfo → List CpInfo
  | 0, r => r
  | n + 1, r => .unusable :: gap n r
def poolList (es : List (Nat × CpInfo)) (last : Nat) : List CpInfo := es.foldr (fun e r => gap e.1 (e.2 :: r)) (gap last [])
def pool (es : List (Nat × CpInfo)) (last : Nat) : Array CpInfo := ⟨poolList es last⟩
def fileOf (pool : Array CpInfo) (this : Nat) (attrs : Array Attribute := #[]) (ms : Array MethodInfo := #[]) (fl : Nat := 33) (sup : Nat := 0) (ifs : Array Nat := #[]) (fds : Array FieldInfo := #[]) : ClassFile where
  minorVersion := 0
  majorVersion := 65
  constantPool := pool
  accessFlags := fl
  thisClass := this
  superClass := sup
  interfaces := ifs
  fields := fds
  methods := ms
  attributes := attrs
def plain (name : String) (sup : Option ClassId) : Class where
  name := name
  kind := .ordinary
  loader := none
  accessFlags := 33
  super := sup
  interfaces := #[]
  cf := none
  fields := #[]
  methods := #[]
  instanceTypes := #[]
  staticTypes := #[]
  resolved := #[]
  callSites := []
  init := .initialized
  statics := none
  mirror := none

def pool0 : Array CpInfo := pool [(5, u "<init>"), (0, u "()V"), (1, .class_ 10), (1, u "java/lang/Object")] 113

def k0m0 : Method := { name := "<init>", desc := "()V", sig := { parameters := [], returnType := none }, accessFlags := 1, code := none }
/-- java/lang/Object -/
def k0 : Class := { plain "java/lang/Object" none with
  accessFlags := 33
  interfaces := #[]
  cf := some (fileOf pool0 8 #[] #[{ accessFlags := 1, nameIndex := 5, descriptorIndex := 6, attributes := #[] }] 33 0 #[] #[])
  fields := #[]
  methods := #[k0m0]
  instanceTypes := #[]
  staticTypes := #[]
  resolved := Array.replicate 124 none
  statics := none }

def pool1 : Array CpInfo := pool [(2, .class_ 4), (1, u "java/lang/Object"), (0, u "<init>"), (0, u "()V"), (0, .methodref 8 9), (0, .class_ 10), (0, .nameAndType 11 12), (0, u "com/example/lichen/lichen/analysis/RunsCountUpToPinLaw"), (0, u "order"), (0, u "([III)V"), (0, .integer 2147483647), (0, .methodref 15 16), (0, .class_ 17), (0, .nameAndType 18 19), (0, u "com/example/lichen/lichen/analysis/Runs"), (0, u "countUpTo"), (0, u "([II)I"), (2, u "law"), (0, u "(IIIIII)Z")] 5

def k1m0 : Method := { name := "<init>", desc := "()V", sig := { parameters := [], returnType := none }, accessFlags := 1, code := none }
def k1c1 : Code := { maxStack := 4, maxLocals := 12, code := code, exceptionTable := #[], attributes := #[] }
def k1m1 : Method := { name := "law", desc := "(IIIIII)Z", sig := { parameters := [.int, .int, .int, .int, .int, .int], returnType := some .boolean }, accessFlags := 9, code := some k1c1 }
def k1c2 : Code := { maxStack := 4, maxLocals := 4, code := method_3_code, exceptionTable := #[], attributes := #[] }
def k1m2 : Method := { name := "order", desc := "([III)V", sig := { parameters := [(.array .int), .int, .int], returnType := none }, accessFlags := 10, code := some k1c2 }
/-- com/example/lichen/lichen/analysis/RunsCountUpToPinLaw -/
def k1 : Class := { plain "com/example/lichen/lichen/analysis/RunsCountUpToPinLaw" (some 0) with
  accessFlags := 49
  interfaces := #[]
  cf := some (fileOf pool1 8 #[] #[{ accessFlags := 1, nameIndex := 5, descriptorIndex := 6, attributes := #[] }, { accessFlags := 9, nameIndex := 22, descriptorIndex := 23, attributes := #[] }, { accessFlags := 10, nameIndex := 11, descriptorIndex := 12, attributes := #[] }] 49 2 #[] #[])
  fields := #[]
  methods := #[k1m0, k1m1, k1m2]
  instanceTypes := #[]
  staticTypes := #[]
  resolved := Array.replicate 29 none
  statics := none }

def pool2 : Array CpInfo := pool [(2, .class_ 4), (1, u "java/lang/Object"), (3, .class_ 10), (1, u "com/example/lichen/lichen/analysis/Runs"), (0, u "box"), (0, u "[I"), (2, u "begin"), (2, u "end"), (66, u "count"), (0, u "I"), (12, u "countUpTo"), (0, u "([II)I")] 17

def k2c0 : Code := { maxStack := 2, maxLocals := 5, code := prog_23_method_6_code, exceptionTable := #[], attributes := #[] }
def k2m0 : Method := { name := "countUpTo", desc := "([II)I", sig := { parameters := [(.array .int), .int], returnType := some .int }, accessFlags := 8, code := some k2c0 }
/-- com/example/lichen/lichen/analysis/Runs -/
def k2 : Class := { plain "com/example/lichen/lichen/analysis/Runs" (some 0) with
  accessFlags := 48
  interfaces := #[]
  cf := some (fileOf pool2 8 #[] #[{ accessFlags := 8, nameIndex := 99, descriptorIndex := 100, attributes := #[] }] 48 2 #[] #[{ accessFlags := 18, nameIndex := 11, descriptorIndex := 12, attributes := #[] }, { accessFlags := 18, nameIndex := 15, descriptorIndex := 12, attributes := #[] }, { accessFlags := 18, nameIndex := 18, descriptorIndex := 12, attributes := #[] }, { accessFlags := 2, nameIndex := 85, descriptorIndex := 86, attributes := #[] }])
  fields := #[{ name := "box", type := (.array .int), accessFlags := 18, slot := 0, constantValue := 0 }, { name := "begin", type := (.array .int), accessFlags := 18, slot := 1, constantValue := 0 }, { name := "end", type := (.array .int), accessFlags := 18, slot := 2, constantValue := 0 }, { name := "count", type := .int, accessFlags := 2, slot := 3, constantValue := 0 }]
  methods := #[k2m0]
  instanceTypes := #[(.array .int), (.array .int), (.array .int), .int]
  staticTypes := #[]
  resolved := Array.replicate 118 none
  statics := none }

def pool3 : Array CpInfo := pool [(1, u "java/lang/Cloneable"), (0, .class_ 1), (0, u "java/lang/Object"), (0, .class_ 3)] 3

/-- java/lang/Cloneable -/
def k3 : Class := { plain "java/lang/Cloneable" (some 0) with
  accessFlags := 1537
  interfaces := #[]
  cf := some (fileOf pool3 2 #[] #[] 1537 4 #[] #[])
  fields := #[]
  methods := #[]
  instanceTypes := #[]
  staticTypes := #[]
  resolved := Array.replicate 8 none
  statics := none }

def pool4 : Array CpInfo := pool [(1, u "java/io/Serializable"), (0, .class_ 1), (0, u "java/lang/Object"), (0, .class_ 3)] 3

/-- java/io/Serializable -/
def k4 : Class := { plain "java/io/Serializable" (some 0) with
  accessFlags := 1537
  interfaces := #[]
  cf := some (fileOf pool4 2 #[] #[] 1537 4 #[] #[])
  fields := #[]
  methods := #[]
  instanceTypes := #[]
  staticTypes := #[]
  resolved := Array.replicate 8 none
  statics := none }

/-- the primitive byte -/
def k5 : Class := { plain "byte" none with kind := .primitive 'B', accessFlags := 0x411 }
/-- [B -/
def k6 : Class := { plain "[B" (some 0) with kind := .array 5 .byte, interfaces := #[3, 4], accessFlags := 1041 }

/-- the primitive int -/
def k7 : Class := { plain "int" none with kind := .primitive 'I', accessFlags := 0x411 }
/-- [I -/
def k8 : Class := { plain "[I" (some 0) with kind := .array 7 .int, interfaces := #[3, 4], accessFlags := 1041 }

def heap : Heap := #[]
def classes : Array Class := #[k0, k1, k2, k3, k4, k5, k6, k7, k8]
def interned : List (Array UInt16 × Addr) := []
def slotsUsed : Nat := 0
def theMethod : MethodId := ⟨1, 1⟩
def args0 : Array Value := #[.int 9, .int 77, .int 3, .int 4, .int 5, .int 6]
def aboutOver (below : List Frame) : State where
  vm := { classes := classes, interned := interned.toArray }
  heap := heap
  slotsUsed := slotsUsed
  threads := #[{ frames := .invoking theMethod args0 :: below }]
def below0 : List Frame := [.native { method := ⟨0, 0⟩, args := #[] }]
def about1 : State := aboutOver below0
def p0 : Program := .bare "" "" ""
def e0 : Env := launch0.env 0 0 0
theorem w_frames : about1.frames = Frame.invoking theMethod args0 :: below0 := rfl
set_option maxRecDepth 65536 in
theorem w_args : argsFit about1.vm theMethod args0 = true := by decide +kernel
set_option maxRecDepth 65536 in
theorem w_heap : heapFits about1 = true := by decide +kernel
set_option maxRecDepth 65536 in
theorem w_runnable : about1.curStatus? = some .runnable := by decide +kernel
set_option maxRecDepth 65536 in
theorem w_alone : about1.alone = true := by decide +kernel
set_option maxRecDepth 65536 in
theorem w_named : about1.methodNamed? x = some theMethod := by decide +kernel
set_option maxRecDepth 65536 in
theorem w_hears : about1.hears theMethod below0 = true := by decide +kernel
set_option maxRecDepth 65536 in
theorem w_ripe : about1.ripe theMethod args0 below0 = true := by decide +kernel
theorem w_running : about1.status = .running := rfl
set_option maxRecDepth 65536 in
theorem w_room : about1.hasRoom e0.platform room_1 = true :=
  launch0.hasRoom_least _ room_1 (by decide +kernel) (by decide +kernel) (by decide +kernel) (by decide +kernel) (by decide +kernel) (by decide +kernel)
theorem allAtoms_all (ts : List Jvm.Cond) (a : Array Jvm.Value) (st : Jvm.State) : (allAtoms ts).before a st = ts.all (fun c => c.before a st) := by
  induction ts with
  | nil => rfl
  | cons c t ih =>
    show (Jvm.Cond.and c (allAtoms t)).before a st = _
    rw [Jvm.Cond.before_and, ih, List.all_cons]
def words1 : List Jvm.Cond := Jvm.Cond.code x code maxLocals ret :: tables_1
/-- a 'code' word, met by the world's own term for the bytes: nothing is compared byte by byte -/
theorem code_word {y : MethodName} {bytes : ByteArray} {mx : Nat} {rt : Option FieldType} {a : Array Value} {s : State} {m : MethodId} {meth : Method} {c : Code} (h1 : s.methodNamed? y = some m) (h2 : s.vm.method? m = some meth) (h3 : meth.code = some c) (h4 : c.code = bytes)
    (h5 : (c.maxLocals == mx && c.exceptionTable.isEmpty && decide (c.maxStack ≤ mostOperands) && decide (meth.sig.returnType = rt) && !meth.locks && decide (parseMethodDescriptor y.desc = some meth.sig)) = true) : (Jvm.Cond.code y bytes mx rt).before a s = true := by
  simp only [Bool.and_eq_true, beq_iff_eq, Bool.not_eq_true', decide_eq_true_eq] at h5
  obtain ⟨⟨⟨⟨⟨g1, g2⟩, g3⟩, g4⟩, g5⟩, g6⟩ := h5
  simp [Cond.before, Cond.holds, Cond.value, h1, h2, h3, h4, g1, g2, g3, g4, g5, g6]
def isCode : Jvm.Cond → Bool
  | .code _ _ _ _ => true
  | _ => false
theorem all_split {L : List Jvm.Cond} {P : Jvm.Cond → Bool} (h1 : L.all (fun c => isCode c || P c) = true) (h2 : ∀ c ∈ L.filter isCode, P c = true) : L.all P = true := by
  refine List.all_eq_true.mpr fun c hc => ?_
  have h := List.all_eq_true.mp h1 c hc
  rcases Bool.eq_false_or_eq_true (isCode c) with hi | hi
  · exact h2 c (List.mem_filter.mpr ⟨hc, hi⟩)
  · simpa [hi] using h
set_option maxRecDepth 65536 in
theorem w_c0 : (Jvm.Cond.code x code maxLocals ret).before args0 about1 = true := code_word (m := ⟨1, 1⟩) (meth := k1m1) (c := k1c1) (by decide +kernel) rfl rfl rfl (by decide +kernel)
set_option maxRecDepth 65536 in
theorem w_c1 : (Jvm.Cond.code ({ cls := "com/example/lichen/lichen/analysis/RunsCountUpToPinLaw", name := "order", desc := "([III)V" } : Jvm.MethodName) method_3_code (4 : Nat) (Option.none : Option Jvm.ClassFile.FieldType)).before args0 about1 = true := code_word (m := ⟨1, 2⟩) (meth := k1m2) (c := k1c2) (by decide +kernel) rfl rfl rfl (by decide +kernel)
set_option maxRecDepth 65536 in
theorem w_c2 : (Jvm.Cond.code ({ cls := "com/example/lichen/lichen/analysis/Runs", name := "countUpTo", desc := "([II)I" } : Jvm.MethodName) prog_23_method_6_code (5 : Nat) (Option.some Jvm.ClassFile.FieldType.int)).before args0 about1 = true := code_word (m := ⟨2, 0⟩) (meth := k2m0) (c := k2c0) (by decide +kernel) rfl rfl rfl (by decide +kernel)
def codes1 : List Jvm.Cond := [Jvm.Cond.code x code maxLocals ret, Jvm.Cond.code ({ cls := "com/example/lichen/lichen/analysis/RunsCountUpToPinLaw", name := "order", desc := "([III)V" } : Jvm.MethodName) method_3_code (4 : Nat) (Option.none : Option Jvm.ClassFile.FieldType), Jvm.Cond.code ({ cls := "com/example/lichen/lichen/analysis/Runs", name := "countUpTo", desc := "([II)I" } : Jvm.MethodName) prog_23_method_6_code (5 : Nat) (Option.some Jvm.ClassFile.FieldType.int)]
set_option maxRecDepth 65536 in
theorem codes_eq : words1.filter isCode = codes1 := rfl
theorem w_codes : ∀ c ∈ words1.filter isCode, c.before args0 about1 = true := by
  rw [codes_eq]
  intro c hc
  simp only [codes1, List.mem_cons, List.not_mem_nil, or_false] at hc
  rcases hc with rfl | rfl | rfl
  · exact w_c0
  · exact w_c1
  · exact w_c2
set_option maxRecDepth 65536 in
theorem w_t1 : words1.all (fun c => isCode c || c.before args0 about1) = true := by decide +kernel
theorem w_tables : (allAtoms (Jvm.Cond.code x code maxLocals ret :: tables_1)).before args0 about1 = true := by
  rw [allAtoms_all]
  show words1.all (fun c => c.before args0 about1) = true
  refine all_split ?_ w_codes
  rw [w_t1]
set_option maxRecDepth 65536 in
theorem w_case : (Jvm.Cond.and given_1 narrow_1).before args0 about1 = true := by decide +kernel
theorem w_applies : (headSpec (Jvm.Cond.code x code maxLocals ret :: tables_1) room_1).applies x e0.platform about1 = true :=
  (Spec.applies_iff w_frames).mpr ⟨w_running, w_runnable, w_alone, w_named, w_hears, w_ripe, w_room, w_tables⟩
theorem atStart : AtStart classFile x code maxLocals ret World_1 tables_1 room_1 Calls_1 rest_1 Pre_1 launch0 p0 e0 about1 theMethod args0 below0 :=
  ⟨lists_1, trivial, launch0.admits_env _ _ _, launch0.least_env, fairChoices_fair.cas, fairChoices_fair.clock, w_frames, w_args, w_heap, w_applies, trivial, trivial, w_case⟩
end start1
theorem witness_1 : WitnessClaimed_1 := ⟨start1.p0, start1.e0, start1.about1, start1.theMethod, start1.args0, start1.below0, start1.atStart⟩
end Jvm.Pilot.@@N@@
