import JvmDerived
import JvmDerived.Pilot.@@N@@Statement
import JvmDerived.Pilot.@@N@@Code
set_option linter.unusedVariables false
set_option linter.unusedSimpArgs false
/- laws to paste: Road.backV, Road.eqW, Road.codOf (cut by pick.py; bodies as the Statement names them) -/
namespace Jvm.Pilot.@@N@@
namespace StrChars
open Jvm Sem ClassFile Op Lib Jvm.Stand Jvm.Free.XT Jvm.Free.ALB Jvm.Free.JM Jvm.Free
open Jvm.Lib.Cold (StaticIs)
/-- a char array whose places are chars -/
def Ch (a : Addr) (A : Cell) (U : State) : Prop := Arr .char a A U ∧ Typed .char A
theorem Ch.mv {a : Addr} {A : Cell} {U U' : State} (h : Ch a A U) (hal : U.vm.Alike U'.vm) (hh : U'.heap = U.heap) : Ch a A U' := ⟨h.1.mv hal hh, h.2⟩
theorem Ch.keep {a : Addr} {A : Cell} {U U' : State} (h : Ch a A U) (hal : U.vm.Alike U'.vm) (hk : U'.heap[a]? = some A) : Ch a A U' := ⟨h.1.keep hal hk, h.2⟩
/-- what place i of a char[]'s cell holds -/
def cv (A : Cell) (i : Nat) : Int32 := match A.slots[i]? with | some (.int x) => x | _ => 0
theorem Ch.get {a : Addr} {A : Cell} {U : State} (h : Ch a A U) {i : Nat} (hi : i < A.slots.size) : A.slots[i]? = some (.int (cv A i)) := by
  have e := Array.getElem?_eq_getElem hi
  have f := h.2 i _ e
  unfold cv; rw [e]
  generalize A.slots[i] = v at f
  cases v <;> simp [fits] at f ⊢
/-- the byte that i2b leaves of a char -/
def lo8 (x : Int32) : Int32 := x.toInt8.toInt32
theorem fits_lo8 (y : Int32) : fits .byte (.int (lo8 y)) = true := by
  have h1 := y.toInt8.le_toInt
  have h2 := y.toInt8.toInt_lt
  simp only [lo8, fits, Bool.and_eq_true, decide_eq_true_eq, Int32.le_iff_toInt_le, Int8.toInt_toInt32, show (-128 : Int32).toInt = -128 from by decide, show (127 : Int32).toInt = 127 from by decide]
  omega
/-- A' is A but that each place j of lo .. hi - 1 holds f j -/
def Laid (A A' : Cell) (lo hi : Nat) (f : Nat → Value) : Prop := A'.cls = A.cls ∧ A'.vm = A.vm ∧ A'.slots.size = A.slots.size ∧ ∀ i, A'.slots[i]? = if lo ≤ i ∧ i < hi then some (f i) else A.slots[i]?
theorem Laid.zero (A : Cell) (lo : Nat) (f : Nat → Value) : Laid A A lo (lo + 0) f := ⟨rfl, rfl, rfl, fun i => by rw [if_neg (by omega)]⟩
theorem Laid.step {A Ak : Cell} {lo k : Nat} {f : Nat → Value} {v : Value} (h : Laid A Ak lo k f) (hlo : lo ≤ k) (hk : k < Ak.slots.size) (hv : v = f k) : Laid A (Ak.setSlot k v) lo (k + 1) f := by
  refine ⟨h.1, h.2.1, by simpa [Cell.setSlot] using h.2.2.1, fun i => ?_⟩
  by_cases e : k = i
  · subst e; rw [Cell.slots_setSlot_self v hk, if_pos (by omega), hv]
  · rw [Cell.slots_setSlot_ne v e, h.2.2.2 i]
    by_cases q : lo ≤ i ∧ i < k
    · rw [if_pos q, if_pos (by omega)]
    · rw [if_neg q, if_neg (by omega)]
def U16 : String := "java/lang/StringUTF16"
namespace Cmp5
def yN : MethodName := ⟨"java/lang/StringUTF16", "compress", "([CI[BII)I"⟩
abbrev yB : ByteArray := jdk_52_method_21_code
theorem d0 : decode yB 0 = .ok (.iconst 0, 1) := by decide +kernel
theorem d1 : decode yB 1 = .ok (.istore 5, 2) := by decide +kernel
theorem d3 : decode yB 3 = .ok (.iload 5, 2) := by decide +kernel
theorem d5 : decode yB 5 = .ok (.iload 4, 2) := by decide +kernel
theorem d7 : decode yB 7 = .ok (.if_icmp (.ge) 37, 3) := by decide +kernel
theorem d10 : decode yB 10 = .ok (.aload_n 0, 1) := by decide +kernel
theorem d11 : decode yB 11 = .ok (.iload_n 1, 1) := by decide +kernel
theorem d12 : decode yB 12 = .ok (.caload, 1) := by decide +kernel
theorem d13 : decode yB 13 = .ok (.istore 6, 2) := by decide +kernel
theorem d15 : decode yB 15 = .ok (.iload 6, 2) := by decide +kernel
theorem d17 : decode yB 17 = .ok (.sipush 255, 3) := by decide +kernel
theorem d20 : decode yB 20 = .ok (.if_icmp (.le) 6, 3) := by decide +kernel
theorem d26 : decode yB 26 = .ok (.aload_n 2, 1) := by decide +kernel
theorem d27 : decode yB 27 = .ok (.iload_n 3, 1) := by decide +kernel
theorem d28 : decode yB 28 = .ok (.iload 6, 2) := by decide +kernel
theorem d30 : decode yB 30 = .ok (.i2b, 1) := by decide +kernel
theorem d31 : decode yB 31 = .ok (.bastore, 1) := by decide +kernel
theorem d32 : decode yB 32 = .ok (.iinc 1 1, 3) := by decide +kernel
theorem d35 : decode yB 35 = .ok (.iinc 3 1, 3) := by decide +kernel
theorem d38 : decode yB 38 = .ok (.iinc 5 1, 3) := by decide +kernel
theorem d41 : decode yB 41 = .ok (.goto (-38), 3) := by decide +kernel
theorem d44 : decode yB 44 = .ok (.iload 4, 2) := by decide +kernel
theorem d46 : decode yB 46 = .ok (.ireturn, 1) := by decide +kernel
def site : List Cond := []
def tab : Cond := tabOf yN yB 7 (some .int) site
def P (b : Addr) (A : Cell) (d : Addr) (B : Cell) (o q len : Nat) (args : Array Value) (s : State) : Prop := args = #[.ref b, .int (Int32.ofNat o), .ref d, .int (Int32.ofNat q), .int (Int32.ofNat len)] ∧ Ch b A s ∧ Arr .byte d B s ∧ b ≠ d ∧ o + len ≤ A.slots.size ∧ q + len ≤ B.slots.size ∧ ∀ i, i < len → ¬ 255 < cv A (o + i)
def E (b : Addr) (A : Cell) (d : Addr) (B : Cell) (o q len : Nat) (r : Option Value) (s u : State) : Prop := r = some (.int (Int32.ofNat len)) ∧ ∃ B', Put d B' s u ∧ Laid B B' q (q + len) (fun j => Value.int (lo8 (cv A (o + (j - q)))))
/-- no char of the range above 255: len; the places written hold each char's low byte -/
theorem law (l : Launch) (b : Addr) (A : Cell) (d : Addr) (B : Cell) (o q len : Nat) : Law l yN 5 5 0 0 yB 7 (some .int) site (P b A d B o q len) (E b A d B o q len) (copyLocs d q len) 0 0 := by
  refine Law.of_walk (plainFor_of_name (by decide +kernel)) (by decide +kernel) (by decide +kernel) (by decide) (fun _ _ h => by rw [h.1]; rfl) (fun _ U U' hal hh h => ⟨h.1, h.2.1.mv hal hh, h.2.2.1.mv hal hh, h.2.2.2⟩) (fun r U U' V V' h1 hal h2 h => ⟨h.1, h.2.elim fun B' q => ⟨B', q.1.mv h1 h2, q.2⟩⟩) ?_
  intro p e s m args below meth c s₁ X0 hexec hbytes hml hret hlk hnm hown hh0 W hP
  obtain ⟨rfl, hA, hB, hne, l1, l2, hp⟩ := hP
  have c1 : Steps p.tables e below (s₁.setTop (entryFrame m #[.ref b, .int (Int32.ofNat o), .ref d, .int (Int32.ofNat q), .int (Int32.ofNat len)] 7)) (s₁.setTop (mkF m 0 #[.val (.ref b), .val (.int (Int32.ofNat o)), .val (.ref d), .val (.int (Int32.ofNat q)), .val (.int (Int32.ofNat len)), .unset, .unset] [])) := entry rfl
  have hA0 := hA.1.mv X0.warmed.alike hh0
  have hB0 := hB.mv X0.warmed.alike hh0
  have a31 := hA.1.2.2.2
  have c2 : Steps p.tables e below (s₁.setTop (entryFrame m #[.ref b, .int (Int32.ofNat o), .ref d, .int (Int32.ofNat q), .int (Int32.ofNat len)] 7)) (s₁.setTop (mkF m 3 #[.val (.ref b), .val (.int (Int32.ofNat o)), .val (.ref d), .val (.int (Int32.ofNat q)), .val (.int (Int32.ofNat len)), .val (.int 0), .unset] [])) := c1.trans (by
    refine iconstV X0.here hexec rfl 0 (hb hbytes d0) (by decide) ?_
    refine XS.istore X0.here hexec rfl (hb hbytes d1) rfl rfl ?_
    exact Steps.refl _)
  have loop : ∀ (r i : Nat), i + r = len → ∀ (z : Slot), (z = .unset ∨ ∃ w, z = .val w ∧ w.category = 1) → ∀ (Tl : State) (Bk : Cell), Stand p l e { frames := 0, locals := 0, cells := 0, slots := 0 } s m #[.ref b, .int (Int32.ofNat o), .ref d, .int (Int32.ofNat q), .int (Int32.ofNat len)] below meth c Tl ([] ++ copyLocs d q i) 0 0 → Put d Bk s₁ Tl → Laid B Bk q (q + i) (fun j => Value.int (lo8 (cv A (o + (j - q))))) →
      Steps p.tables e below (s₁.setTop (entryFrame m #[.ref b, .int (Int32.ofNat o), .ref d, .int (Int32.ofNat q), .int (Int32.ofNat len)] 7)) (Tl.setTop (mkF m 3 #[.val (.ref b), .val (.int (Int32.ofNat (o + i))), .val (.ref d), .val (.int (Int32.ofNat (q + i))), .val (.int (Int32.ofNat len)), .val (.int (Int32.ofNat i)), z] [])) → ∃ (T' : State) (B' : Cell) (z' : Slot), Stand p l e { frames := 0, locals := 0, cells := 0, slots := 0 } s m #[.ref b, .int (Int32.ofNat o), .ref d, .int (Int32.ofNat q), .int (Int32.ofNat len)] below meth c T' ([] ++ copyLocs d q len) 0 0 ∧ Put d B' s₁ T' ∧ Laid B B' q (q + len) (fun j => Value.int (lo8 (cv A (o + (j - q))))) ∧
      Steps p.tables e below (s₁.setTop (entryFrame m #[.ref b, .int (Int32.ofNat o), .ref d, .int (Int32.ofNat q), .int (Int32.ofNat len)] 7)) (T'.setTop (mkF m 3 #[.val (.ref b), .val (.int (Int32.ofNat (o + len))), .val (.ref d), .val (.int (Int32.ofNat (q + len))), .val (.int (Int32.ofNat len)), .val (.int (Int32.ofNat len)), z'] [])) := by
    intro r
    induction r with
    | zero =>
      intro i hi z hz Tl Bk Xl pl fl cl
      have hil : i = len := by omega
      rw [hil] at Xl fl cl
      exact ⟨Tl, Bk, z, Xl, pl, fl, cl⟩
    | succ r ih =>
      intro i hi z hz Tl Bk Xl pl fl cl
      have all := X0.warmed.alike.symm.trans Xl.warmed.alike
      have hAl := hA0.keep all (pl.other hne hA0.1)
      have hBk := hB0.like all pl.1 fl.1 fl.2.1 fl.2.2.1
      have hlt : q + i < Bk.slots.size := by rw [fl.2.2.1]; omega
      have c3 : Steps p.tables e below (s₁.setTop (entryFrame m #[.ref b, .int (Int32.ofNat o), .ref d, .int (Int32.ofNat q), .int (Int32.ofNat len)] 7)) (Tl.setTop (mkF m 12 #[.val (.ref b), .val (.int (Int32.ofNat (o + i))), .val (.ref d), .val (.int (Int32.ofNat (q + i))), .val (.int (Int32.ofNat len)), .val (.int (Int32.ofNat i)), z] [.int (Int32.ofNat (o + i)), .ref b])) := cl.trans (by
        refine XS.iload Xl.here hexec rfl (hb hbytes d3) rfl ?_
        refine XS.iload Xl.here hexec rfl (hb hbytes d5) rfl ?_
        refine XS.icmpNo Xl.here hexec rfl (hb hbytes d7) rfl (ii_ge_f (lt32 (by omega) (by omega))) ?_
        refine XS.aloadN Xl.here hexec rfl (hb hbytes d10) rfl rfl ?_
        refine XS.iloadN Xl.here hexec rfl (hb hbytes d11) rfl ?_
        exact Steps.refl _)
      have c4 : Steps p.tables e below (s₁.setTop (entryFrame m #[.ref b, .int (Int32.ofNat o), .ref d, .int (Int32.ofNat q), .int (Int32.ofNat len)] 7)) (Tl.setTop (mkF m 13 #[.val (.ref b), .val (.int (Int32.ofNat (o + i))), .val (.ref d), .val (.int (Int32.ofNat (q + i))), .val (.int (Int32.ofNat len)), .val (.int (Int32.ofNat i)), z] [.int (cv A (o + i))])) := c3.trans (by
        refine Xl.aget hexec hAl rfl (hA.get (i := o + i) (by omega)) rfl rfl (hb hbytes d12) ?_
        exact Steps.refl _)
      have c5 : Steps p.tables e below (s₁.setTop (entryFrame m #[.ref b, .int (Int32.ofNat o), .ref d, .int (Int32.ofNat q), .int (Int32.ofNat len)] 7)) (Tl.setTop (mkF m 15 #[.val (.ref b), .val (.int (Int32.ofNat (o + i))), .val (.ref d), .val (.int (Int32.ofNat (q + i))), .val (.int (Int32.ofNat len)), .val (.int (Int32.ofNat i)), .val (.int (cv A (o + i)))] [])) := c4.trans (by
        refine XS.istoreS Xl.here hexec rfl (hb hbytes d13) rfl rfl hz ?_
        exact Steps.refl _)
      have c6 : Steps p.tables e below (s₁.setTop (entryFrame m #[.ref b, .int (Int32.ofNat o), .ref d, .int (Int32.ofNat q), .int (Int32.ofNat len)] 7)) (Tl.setTop (mkF m 31 #[.val (.ref b), .val (.int (Int32.ofNat (o + i))), .val (.ref d), .val (.int (Int32.ofNat (q + i))), .val (.int (Int32.ofNat len)), .val (.int (Int32.ofNat i)), .val (.int (cv A (o + i)))] [.int (lo8 (cv A (o + i))), .int (Int32.ofNat (q + i)), .ref d])) := c5.trans (by
        refine XS.iload Xl.here hexec rfl (hb hbytes d15) rfl ?_
        refine sipushV Xl.here hexec rfl 255 (hb hbytes d17) (by decide) ?_
        refine XS.icmpYes Xl.here hexec rfl (pc0 := 20) rfl (hb hbytes d20) rfl (ii_le_t (hp i (by omega))) (by decide) rfl ?_
        refine XS.aloadN Xl.here hexec rfl (hb hbytes d26) rfl rfl ?_
        refine XS.iloadN Xl.here hexec rfl (hb hbytes d27) rfl ?_
        refine XS.iload Xl.here hexec rfl (hb hbytes d28) rfl ?_
        refine i2b Xl.here hexec rfl (hb hbytes d30) rfl ?_
        exact Steps.refl _)
      obtain ⟨T7, X7, p7, st7⟩ := Xl.aput hexec hBk rfl hlt rfl (fits_lo8 (cv A (o + i))) (g := (mkF m 31 #[.val (.ref b), .val (.int (Int32.ofNat (o + i))), .val (.ref d), .val (.int (Int32.ofNat (q + i))), .val (.int (Int32.ofNat len)), .val (.int (Int32.ofNat i)), .val (.int (cv A (o + i)))] [.int (lo8 (cv A (o + i))), .int (Int32.ofNat (q + i)), .ref d])) rfl (rest := []) rfl (hb hbytes d31)
      have c8 : Steps p.tables e below (s₁.setTop (entryFrame m #[.ref b, .int (Int32.ofNat o), .ref d, .int (Int32.ofNat q), .int (Int32.ofNat len)] 7)) (T7.setTop (mkF m 32 #[.val (.ref b), .val (.int (Int32.ofNat (o + i))), .val (.ref d), .val (.int (Int32.ofNat (q + i))), .val (.int (Int32.ofNat len)), .val (.int (Int32.ofNat i)), .val (.int (cv A (o + i)))] [])) := c6.trans (st7 _ (Steps.refl _))
      have c9 : Steps p.tables e below (s₁.setTop (entryFrame m #[.ref b, .int (Int32.ofNat o), .ref d, .int (Int32.ofNat q), .int (Int32.ofNat len)] 7)) (T7.setTop (mkF m 3 #[.val (.ref b), .val (.int (Int32.ofNat (o + i) + 1)), .val (.ref d), .val (.int (Int32.ofNat (q + i) + 1)), .val (.int (Int32.ofNat len)), .val (.int (Int32.ofNat i + 1)), .val (.int (cv A (o + i)))] [])) := c8.trans (by
        refine iincV X7.here hexec rfl 1 (hb hbytes d32) (by decide) rfl rfl ?_
        refine iincV X7.here hexec rfl 1 (hb hbytes d35) (by decide) rfl rfl ?_
        refine iincV X7.here hexec rfl 1 (hb hbytes d38) (by decide) rfl rfl ?_
        refine XS.goto X7.here hexec rfl (pc0 := 41) rfl (hb hbytes d41) (by decide) rfl ?_
        exact Steps.refl _)
      have c10 : Steps p.tables e below (s₁.setTop (entryFrame m #[.ref b, .int (Int32.ofNat o), .ref d, .int (Int32.ofNat q), .int (Int32.ofNat len)] 7)) (T7.setTop (mkF m 3 #[.val (.ref b), .val (.int (Int32.ofNat (o + (i + 1)))), .val (.ref d), .val (.int (Int32.ofNat (q + (i + 1)))), .val (.int (Int32.ofNat len)), .val (.int (Int32.ofNat (i + 1))), .val (.int (cv A (o + i)))] [])) := by
        have := c9
        rw [succ32, succ32, succ32] at this
        exact this
      exact ih (i + 1) (by omega) _ (Or.inr ⟨_, rfl, rfl⟩) T7 _ (by rw [copyLocs_step, ← List.append_assoc]; exact X7) (pl.trans p7) (fl.step (by omega) hlt (by simp)) c10
  obtain ⟨T9, B9, z9, X9, p9, f9, g9⟩ := loop len 0 (by omega) .unset (Or.inl rfl) s₁ B (by simpa [copyLocs] using X0) ⟨hB0.1, fun _ _ => rfl, rfl⟩ (Laid.zero _ _ _) c2
  have c11 : Steps p.tables e below (s₁.setTop (entryFrame m #[.ref b, .int (Int32.ofNat o), .ref d, .int (Int32.ofNat q), .int (Int32.ofNat len)] 7)) (T9.setTop (mkF m 46 #[.val (.ref b), .val (.int (Int32.ofNat (o + len))), .val (.ref d), .val (.int (Int32.ofNat (q + len))), .val (.int (Int32.ofNat len)), .val (.int (Int32.ofNat len)), z9] [.int (Int32.ofNat len)])) := g9.trans (by
    refine XS.iload X9.here hexec rfl (hb hbytes d3) rfl ?_
    refine XS.iload X9.here hexec rfl (hb hbytes d5) rfl ?_
    refine XS.icmpYes X9.here hexec rfl (pc0 := 7) rfl (hb hbytes d7) rfl (ii_ge_t (nlt32 (by omega) (Nat.le_refl _))) (by decide) rfl ?_
    refine XS.iload X9.here hexec rfl (hb hbytes d44) rfl ?_
    exact Steps.refl _)
  exact ⟨T9, some (.int (Int32.ofNat len)), _, _, _, X9, by simp, rfl, rfl, (fun h => by cases h), ⟨rfl, B9, p9.from hh0, f9⟩, fun fs hl => c11.trans (X9.ireturnOut hexec hret rfl (Or.inl rfl) (hb hbytes d46) hl)⟩
end Cmp5
namespace Cmp3
def yN : MethodName := ⟨"java/lang/StringUTF16", "compress", "([CII)[B"⟩
abbrev yB : ByteArray := jdk_52_method_16_code
theorem d0 : decode yB 0 = .ok (.iload_n 2, 1) := by decide +kernel
theorem d1 : decode yB 1 = .ok (.newarray .byte, 2) := by decide +kernel
theorem d3 : decode yB 3 = .ok (.astore_n 3, 1) := by decide +kernel
theorem d4 : decode yB 4 = .ok (.aload_n 0, 1) := by decide +kernel
theorem d5 : decode yB 5 = .ok (.iload_n 1, 1) := by decide +kernel
theorem d6 : decode yB 6 = .ok (.aload_n 3, 1) := by decide +kernel
theorem d7 : decode yB 7 = .ok (.iconst 0, 1) := by decide +kernel
theorem d8 : decode yB 8 = .ok (.iload_n 2, 1) := by decide +kernel
theorem d9 : decode yB 9 = .ok (.invokestatic 115, 3) := by decide +kernel
theorem d12 : decode yB 12 = .ok (.istore 4, 2) := by decide +kernel
theorem d14 : decode yB 14 = .ok (.iload 4, 2) := by decide +kernel
theorem d16 : decode yB 16 = .ok (.iload_n 2, 1) := by decide +kernel
theorem d17 : decode yB 17 = .ok (.if_icmp (.eq) 40, 3) := by decide +kernel
theorem d57 : decode yB 57 = .ok (.aload_n 3, 1) := by decide +kernel
theorem d58 : decode yB 58 = .ok (.areturn, 1) := by decide +kernel
def site : List Cond := [.arrayClass .byte, Cmp5.tab] ++ staticW U16 115 Cmp5.yN
def tab : Cond := tabOf yN yB 6 (some (.array .byte)) site
def P (b : Addr) (A : Cell) (o len : Nat) (args : Array Value) (s : State) : Prop := args = #[.ref b, .int (Int32.ofNat o), .int (Int32.ofNat len)] ∧ Ch b A s ∧ o + len ≤ A.slots.size ∧ len ≤ 536870912 ∧ ∀ i, i < len → ¬ 255 < cv A (o + i)
def E (b : Addr) (A : Cell) (o len : Nat) (r : Option Value) (s u : State) : Prop := NewArr .byte "[B" len (fun j => .int (lo8 (cv A (o + j)))) r s u ∧ u.heap.size = s.heap.size + 1
/-- no char of the range above 255: a new byte[] of their low bytes -/
theorem law (l : Launch) (b : Addr) (A : Cell) (o len : Nat) : Law l yN 3 3 1 18 yB 6 (some (.array .byte)) site (P b A o len) (E b A o len) [] 1 len := by
  refine Law.of_walk (plainFor_of_name (by decide +kernel)) (by decide +kernel) (by decide +kernel) (by decide) (fun _ _ h => by rw [h.1]; rfl) (fun _ U U' hal hh h => ⟨h.1, h.2.1.mv hal hh, h.2.2⟩) (fun r U U' V V' h1 hal h2 h => ⟨NewArr.mv r U U' V V' h1 hal h2 h.1, by rw [h1, h2]; exact h.2⟩) ?_
  intro p e s m args below meth c s₁ X0 hexec hbytes hml hret hlk hnm hown hh0 W hP
  obtain ⟨rfl, hA, l1, l2, hp⟩ := hP
  have a31 := hA.1.2.2.2
  have c1 : Steps p.tables e below (s₁.setTop (entryFrame m #[.ref b, .int (Int32.ofNat o), .int (Int32.ofNat len)] 6)) (s₁.setTop (mkF m 0 #[.val (.ref b), .val (.int (Int32.ofNat o)), .val (.int (Int32.ofNat len)), .unset, .unset, .unset] [])) := entry rfl
  have c2 : Steps p.tables e below (s₁.setTop (entryFrame m #[.ref b, .int (Int32.ofNat o), .int (Int32.ofNat len)] 6)) (s₁.setTop (mkF m 1 #[.val (.ref b), .val (.int (Int32.ofNat o)), .val (.int (Int32.ofNat len)), .unset, .unset, .unset] [.int (Int32.ofNat len)])) := c1.trans (by
    refine XS.iloadN X0.here hexec rfl (hb hbytes d0) rfl ?_
    exact Steps.refl _)
  obtain ⟨T3, B3, X3, ba3, bs3, bv3, bh3, bf3, st3⟩ := X0.anew hexec (atype := .byte) (wk W (.arrayClass .byte)) rfl (by show len * 1 ≤ _; omega) (by omega) (g := (mkF m 1 #[.val (.ref b), .val (.int (Int32.ofNat o)), .val (.int (Int32.ofNat len)), .unset, .unset, .unset] [.int (Int32.ofNat len)])) rfl (hb hbytes d1) (rest := []) rfl (Nat.le_refl _) (by show 0 + len ≤ len; omega)
  rw [hh0] at ba3 st3
  have kp3 : XT.Kept s T3 := (XT.Kept.of_eq hh0).push bh3
  have hA3 := hA.keep X3.warmed.alike (kp3 _ _ hA.1.1)
  have hne : b ≠ s.heap.size := hA.1.ne
  have c4 : Steps p.tables e below (s₁.setTop (entryFrame m #[.ref b, .int (Int32.ofNat o), .int (Int32.ofNat len)] 6)) (T3.setTop (mkF m 3 #[.val (.ref b), .val (.int (Int32.ofNat o)), .val (.int (Int32.ofNat len)), .unset, .unset, .unset] [.ref s.heap.size])) := c2.trans (st3 _ (Steps.refl _))
  have c5 : Steps p.tables e below (s₁.setTop (entryFrame m #[.ref b, .int (Int32.ofNat o), .int (Int32.ofNat len)] 6)) (T3.setTop (mkF m 9 #[.val (.ref b), .val (.int (Int32.ofNat o)), .val (.int (Int32.ofNat len)), .val (.ref s.heap.size), .unset, .unset] [.int (Int32.ofNat len), .int 0, .ref s.heap.size, .int (Int32.ofNat o), .ref b])) := c4.trans (by
    refine XS.astoreN X3.here hexec rfl (hb hbytes d3) rfl rfl rfl ?_
    refine XS.aloadN X3.here hexec rfl (hb hbytes d4) rfl rfl ?_
    refine XS.iloadN X3.here hexec rfl (hb hbytes d5) rfl ?_
    refine XS.aloadN X3.here hexec rfl (hb hbytes d6) rfl rfl ?_
    refine iconstV X3.here hexec rfl 0 (hb hbytes d7) (by decide) ?_
    refine XS.iloadN X3.here hexec rfl (hb hbytes d8) rfl ?_
    exact Steps.refl _)
  obtain ⟨v6, T6, X6, E6, g6⟩ := X3.callS hexec (Cmp5.law l b A s.heap.size B3 o 0 len) hown (wks W (staticW U16 115 Cmp5.yN)) (wk W Cmp5.tab) (W := 0) (Nat.le_of_ble_eq_true rfl) (Nat.le_of_ble_eq_true rfl) (Nat.le_refl _) (by show 0 + len + 0 ≤ len; omega) (g := (mkF m 9 #[.val (.ref b), .val (.int (Int32.ofNat o)), .val (.int (Int32.ofNat len)), .val (.ref s.heap.size), .unset, .unset] [.int (Int32.ofNat len), .int (Int32.ofNat 0), .ref s.heap.size, .int (Int32.ofNat o), .ref b])) rfl (by rw [hml]; rfl) c5 (argsL := [.ref b, .int (Int32.ofNat o), .ref s.heap.size, .int (Int32.ofNat 0), .int (Int32.ofNat len)]) (rest := []) rfl rfl (by show 2 * 0 + 0 ≤ _; decide) (hb hbytes d9) (⟨rfl, hA3, ba3, hne, l1, by rw [bs3]; simp, hp⟩)
  obtain ⟨rfl, B6, p6, f6⟩ := E6
  have c7 : Steps p.tables e below (s₁.setTop (entryFrame m #[.ref b, .int (Int32.ofNat o), .int (Int32.ofNat len)] 6)) (T6.setTop (mkF m 12 #[.val (.ref b), .val (.int (Int32.ofNat o)), .val (.int (Int32.ofNat len)), .val (.ref s.heap.size), .unset, .unset] [.int (Int32.ofNat len)])) := g6
  have c8 : Steps p.tables e below (s₁.setTop (entryFrame m #[.ref b, .int (Int32.ofNat o), .int (Int32.ofNat len)] 6)) (T6.setTop (mkF m 58 #[.val (.ref b), .val (.int (Int32.ofNat o)), .val (.int (Int32.ofNat len)), .val (.ref s.heap.size), .val (.int (Int32.ofNat len)), .unset] [.ref s.heap.size])) := c7.trans (by
    refine XS.istore X6.here hexec rfl (hb hbytes d12) rfl rfl ?_
    refine XS.iload X6.here hexec rfl (hb hbytes d14) rfl ?_
    refine XS.iloadN X6.here hexec rfl (hb hbytes d16) rfl ?_
    refine XS.icmpYes X6.here hexec rfl (pc0 := 17) rfl (hb hbytes d17) rfl (ii_eq_t rfl) (by decide) rfl ?_
    refine XS.aloadN X6.here hexec rfl (hb hbytes d57) rfl rfl ?_
    exact Steps.refl _)
  have X8 := X6.wide (L' := []) (cells' := 1) (slots' := len) (fun x hx hlt => by
    simp only [List.nil_append, copyLocs, List.mem_map, List.mem_range] at hx
    obtain ⟨i, -, rfl⟩ := hx
    exact absurd hlt (Nat.lt_irrefl _)) (Nat.le_refl _) (by omega)
  exact ⟨T6, some (.ref s.heap.size), _, _, _, X8, rfl, rfl, rfl, (fun h => by cases h), ⟨⟨rfl, B6, ba3.like (X3.warmed.alike.symm.trans X6.warmed.alike) p6.1 f6.1 f6.2.1 f6.2.2.1, f6.2.1.trans bv3, by rw [X6.warmed.alike.findClass, f6.1]; exact bf3, by rw [f6.2.2.1, bs3]; simp, fun j hj => by rw [f6.2.2.2 j, if_pos (by omega)]; rfl, kp3.put p6 (Nat.le_refl _)⟩, by rw [p6.2.2, bh3, hh0]; simp⟩, fun fs hl => c8.trans (X8.areturnOut hexec rfl hret rfl (hb hbytes d58) hl)⟩
end Cmp3
namespace CodL
def yN : MethodName := ⟨"java/lang/StringUTF16", "coderFromArrayLen", "([BI)B"⟩
abbrev yB : ByteArray := jdk_52_method_15_code
theorem d0 : decode yB 0 = .ok (.iload_n 1, 1) := by decide +kernel
theorem d1 : decode yB 1 = .ok (.aload_n 0, 1) := by decide +kernel
theorem d2 : decode yB 2 = .ok (.arraylength, 1) := by decide +kernel
theorem d3 : decode yB 3 = .ok (.isub, 1) := by decide +kernel
theorem d4 : decode yB 4 = .ok (.bipush 31, 2) := by decide +kernel
theorem d6 : decode yB 6 = .ok (.iushr, 1) := by decide +kernel
theorem d7 : decode yB 7 = .ok (.i2b, 1) := by decide +kernel
theorem d8 : decode yB 8 = .ok (.ireturn, 1) := by decide +kernel
def site : List Cond := []
def tab : Cond := tabOf yN yB 2 (some .byte) site
def P (d : Addr) (B : Cell) (args : Array Value) (s : State) : Prop := args = #[.ref d, .int (Int32.ofNat B.slots.size)] ∧ Arr .byte d B s
def E (r : Option Value) (s u : State) : Prop := XT.PureE (some (.int 0)) r s u
/-- an array as long as the number of chars: LATIN1 -/
theorem law (l : Launch) (d : Addr) (B : Cell) : Law l yN 2 2 0 0 yB 2 (some .byte) site (P d B) E [] 0 0 := by
  refine Law.of_walk (plainFor_of_name (by decide +kernel)) (by decide +kernel) (by decide +kernel) (by decide) (fun _ _ h => by rw [h.1]; rfl) (fun _ U U' hal hh h => ⟨h.1, h.2.mv hal hh⟩) (fun r U U' V V' h1 hal h2 h => XT.PureE.mv r U U' V V' h1 hal h2 h) ?_
  intro p e s m args below meth c s₁ X0 hexec hbytes hml hret hlk hnm hown hh0 W hP
  obtain ⟨rfl, hB⟩ := hP
  have hB0 := hB.mv X0.warmed.alike hh0
  have c1 : Steps p.tables e below (s₁.setTop (entryFrame m #[.ref d, .int (Int32.ofNat B.slots.size)] 2)) (s₁.setTop (mkF m 0 #[.val (.ref d), .val (.int (Int32.ofNat B.slots.size))] [])) := entry rfl
  have c2 : Steps p.tables e below (s₁.setTop (entryFrame m #[.ref d, .int (Int32.ofNat B.slots.size)] 2)) (s₁.setTop (mkF m 2 #[.val (.ref d), .val (.int (Int32.ofNat B.slots.size))] [.ref d, .int (Int32.ofNat B.slots.size)])) := c1.trans (by
    refine XS.iloadN X0.here hexec rfl (hb hbytes d0) rfl ?_
    refine XS.aloadN X0.here hexec rfl (hb hbytes d1) rfl rfl ?_
    exact Steps.refl _)
  have c3 : Steps p.tables e below (s₁.setTop (entryFrame m #[.ref d, .int (Int32.ofNat B.slots.size)] 2)) (s₁.setTop (mkF m 8 #[.val (.ref d), .val (.int (Int32.ofNat B.slots.size))] [.int (lo8 (ushr (Int32.ofNat B.slots.size - Int32.ofNat B.slots.size) 31))])) := c2.trans (by
    refine X0.alen hexec hB0 rfl rfl (hb hbytes d2) ?_
    refine XS.isub X0.here hexec rfl (hb hbytes d3) rfl ?_
    refine bipushV X0.here hexec rfl 31 (hb hbytes d4) (by decide) ?_
    refine iushr X0.here hexec rfl (hb hbytes d6) rfl ?_
    refine i2b X0.here hexec rfl (hb hbytes d7) rfl ?_
    exact Steps.refl _)
  have e0 : lo8 (ushr (Int32.ofNat B.slots.size - Int32.ofNat B.slots.size) 31) = 0 := by rw [Int32.sub_self]; decide
  rw [e0] at c3
  exact ⟨s₁, some (.int 0), _, _, _, X0, rfl, rfl, rfl, (fun h => by cases h), ⟨rfl, hh0⟩, fun fs hl => c3.trans (X0.ireturnOut hexec hret rfl (Or.inr (Or.inr (Or.inl rfl))) (hb hbytes d8) hl)⟩
end CodL
/-- the String at a is Latin-1 over a new byte[] (the heap's one new cell): the low bytes of the len chars of A from o on; every cell but a is kept -/
def Got (a : Addr) (D : Cell) (fV fC : Field) (A : Cell) (o len : Nat) (r : Option Value) (s u : State) : Prop := r = none ∧ ∃ D' V : Cell, Blank "java/lang/String" a D' u ∧ Same D D' [fV.slot, fC.slot] ∧ D'.slots[fV.slot]? = some (.ref s.heap.size) ∧ D'.slots[fC.slot]? = some (.int 0) ∧ Arr .byte s.heap.size V u ∧ V.vm = .none ∧ u.vm.findClass "[B" = some V.cls ∧ V.slots.size = len ∧ (∀ j, j < len → V.slots[j]? = some (.int (lo8 (cv A (o + j))))) ∧ (∀ (y : Addr) (c : Cell), y ≠ a → s.heap[y]? = some c → u.heap[y]? = some c) ∧ u.heap.size = s.heap.size + 1
theorem Got.mv {a : Addr} {D A : Cell} {fV fC : Field} {o len : Nat} : ∀ r (U U' V V' : State), U'.heap = U.heap → V.vm.Alike V'.vm → V'.heap = V.heap → Got a D fV fC A o len r U V → Got a D fV fC A o len r U' V' :=
  fun r U U' V V' h1 hal h2 ⟨e0, D', X, a1, a2, a3, a4, a5, a6, a7, a8, a9, a10, a11⟩ => ⟨e0, D', X, a1.mv hal h2, a2, by rw [h1]; exact a3, a4, by rw [h1]; exact a5.mv hal h2, a6, by rw [hal.findClass]; exact a7, a8, a9, by rw [h1, h2]; exact a10, by rw [h1, h2]; exact a11⟩
namespace New4
def yN : MethodName := ⟨"java/lang/String", "<init>", "([CIILjava/lang/Void;)V"⟩
abbrev yB : ByteArray := jdk_42_method_149_code
theorem d0 : decode yB 0 = .ok (.aload_n 0, 1) := by decide +kernel
theorem d1 : decode yB 1 = .ok (.invokespecial 1, 3) := by decide +kernel
theorem d4 : decode yB 4 = .ok (.iload_n 3, 1) := by decide +kernel
theorem d5 : decode yB 5 = .ok (.ifCond (.ne) 22, 3) := by decide +kernel
theorem d27 : decode yB 27 = .ok (.getstatic 38, 3) := by decide +kernel
theorem d30 : decode yB 30 = .ok (.ifCond (.eq) 28, 3) := by decide +kernel
theorem d33 : decode yB 33 = .ok (.aload_n 1, 1) := by decide +kernel
theorem d34 : decode yB 34 = .ok (.iload_n 2, 1) := by decide +kernel
theorem d35 : decode yB 35 = .ok (.iload_n 3, 1) := by decide +kernel
theorem d36 : decode yB 36 = .ok (.invokestatic 177, 3) := by decide +kernel
theorem d39 : decode yB 39 = .ok (.astore 5, 2) := by decide +kernel
theorem d41 : decode yB 41 = .ok (.aload_n 0, 1) := by decide +kernel
theorem d42 : decode yB 42 = .ok (.aload 5, 2) := by decide +kernel
theorem d44 : decode yB 44 = .ok (.iload_n 3, 1) := by decide +kernel
theorem d45 : decode yB 45 = .ok (.invokestatic 47, 3) := by decide +kernel
theorem d48 : decode yB 48 = .ok (.putfield 15, 3) := by decide +kernel
theorem d51 : decode yB 51 = .ok (.aload_n 0, 1) := by decide +kernel
theorem d52 : decode yB 52 = .ok (.aload 5, 2) := by decide +kernel
theorem d54 : decode yB 54 = .ok (.putfield 9, 3) := by decide +kernel
theorem d57 : decode yB 57 = .ok (.return_, 1) := by decide +kernel
def site : List Cond := [.fieldLink "java/lang/String" 38 "java/lang/String" "COMPACT_STRINGS" "Z", Cmp3.tab, CodL.tab, .laysFinal "java/lang/String" "java/lang/String" "value" "[B", .fieldLink "java/lang/String" 9 "java/lang/String" "value" "[B", .laysFinal "java/lang/String" "java/lang/String" "coder" "B", .fieldLink "java/lang/String" 15 "java/lang/String" "coder" "B"] ++ objW "java/lang/String" 1 ++ staticW "java/lang/String" 177 Cmp3.yN ++ staticW "java/lang/String" 47 CodL.yN
def tab : Cond := tabOf yN yB 6 none site
def P (a : Addr) (D : Cell) (fV fC : Field) (b : Addr) (A : Cell) (z : Int32) (o len : Nat) (args : Array Value) (s : State) : Prop := args = #[.ref a, .ref b, .int (Int32.ofNat o), .int (Int32.ofNat len), .null] ∧ Blank "java/lang/String" a D s ∧ Found "java/lang/String" "value" "[B" fV s ∧ Found "java/lang/String" "coder" "B" fC s ∧ Ch b A s ∧ StaticIs s "java/lang/String" "COMPACT_STRINGS" "Z" (.int z) ∧ ¬ z = 0 ∧ 0 < len ∧ o + len ≤ A.slots.size ∧ len ≤ 536870912 ∧ ∀ i, i < len → ¬ 255 < cv A (o + i)
def E (a : Addr) (D : Cell) (fV fC : Field) (A : Cell) (o len : Nat) (r : Option Value) (s u : State) : Prop := Got a D fV fC A o len r s u
/-- len > 0, no char of the range above 255: a Latin-1 String of their low bytes -/
theorem law (l : Launch) (a : Addr) (D : Cell) (fV fC : Field) (b : Addr) (A : Cell) (z : Int32) (o len : Nat) : Law l yN 5 4 2 35 yB 6 none site (P a D fV fC b A z o len) (E a D fV fC A o len) [⟨a, fC.slot⟩, ⟨a, fV.slot⟩] 1 len := by
  refine Law.of_walk (plainFor_of_name (by decide +kernel)) (by decide +kernel) (by decide +kernel) (by decide) (fun _ _ h => by rw [h.1]; rfl) (fun _ U U' hal hh h => ⟨h.1, h.2.1.mv hal hh, h.2.2.1.al hal, h.2.2.2.1.al hal, h.2.2.2.2.1.mv hal hh, h.2.2.2.2.2.1.there hal hh, h.2.2.2.2.2.2⟩) (fun r U U' V V' h1 hal h2 h => Got.mv r U U' V V' h1 hal h2 h) ?_
  intro p e s m args below meth c s₁ X0 hexec hbytes hml hret hlk hnm hown hh0 W hP
  obtain ⟨rfl, hB, f1, f2, hA, s1, hz, l0, l1, l2, hp⟩ := hP
  have a31 := hA.1.2.2.2
  have c1 : Steps p.tables e below (s₁.setTop (entryFrame m #[.ref a, .ref b, .int (Int32.ofNat o), .int (Int32.ofNat len), .null] 6)) (s₁.setTop (mkF m 0 #[.val (.ref a), .val (.ref b), .val (.int (Int32.ofNat o)), .val (.int (Int32.ofNat len)), .val .null, .unset] [])) := entry rfl
  have c2 : Steps p.tables e below (s₁.setTop (entryFrame m #[.ref a, .ref b, .int (Int32.ofNat o), .int (Int32.ofNat len), .null] 6)) (s₁.setTop (mkF m 1 #[.val (.ref a), .val (.ref b), .val (.int (Int32.ofNat o)), .val (.int (Int32.ofNat len)), .val .null, .unset] [.ref a])) := c1.trans (by
    refine XS.aloadN X0.here hexec rfl (hb hbytes d0) rfl rfl ?_
    exact Steps.refl _)
  obtain ⟨T3, X3, q3, st3⟩ := X0.oinit hexec hown (wks W (objW "java/lang/String" 1)) (g := (mkF m 1 #[.val (.ref a), .val (.ref b), .val (.int (Int32.ofNat o)), .val (.int (Int32.ofNat len)), .val .null, .unset] [.ref a])) rfl (by rw [hml]; rfl) (rest := []) rfl (hb hbytes d1) (W := 0) (by show 2 * 0 + 0 ≤ _; decide) (Nat.le_of_ble_eq_true rfl) (Nat.le_of_ble_eq_true rfl)
  have hh3 := q3.trans hh0
  have c4 : Steps p.tables e below (s₁.setTop (entryFrame m #[.ref a, .ref b, .int (Int32.ofNat o), .int (Int32.ofNat len), .null] 6)) (T3.setTop (mkF m 27 #[.val (.ref a), .val (.ref b), .val (.int (Int32.ofNat o)), .val (.int (Int32.ofNat len)), .val .null, .unset] [])) := (c2.trans (st3 _ (Steps.refl _))).trans (by
    refine XS.iloadN X3.here hexec rfl (hb hbytes d4) rfl ?_
    refine XS.ifYes X3.here hexec rfl (pc0 := 5) rfl (hb hbytes d5) rfl (i0_ne_t (nz32 (by omega) l0)) (by decide) rfl ?_
    exact Steps.refl _)
  obtain ⟨T5, X5, q5, st5⟩ := X3.sget hexec hown (wk W (.fieldLink "java/lang/String" 38 "java/lang/String" "COMPACT_STRINGS" "Z")) s1 (fun _ _ h => by rw [hh3]; exact h) (g := (mkF m 27 #[.val (.ref a), .val (.ref b), .val (.int (Int32.ofNat o)), .val (.int (Int32.ofNat len)), .val .null, .unset] [])) rfl (hb hbytes d27)
  have hh5 := q5.trans hh3
  have c6 : Steps p.tables e below (s₁.setTop (entryFrame m #[.ref a, .ref b, .int (Int32.ofNat o), .int (Int32.ofNat len), .null] 6)) (T5.setTop (mkF m 30 #[.val (.ref a), .val (.ref b), .val (.int (Int32.ofNat o)), .val (.int (Int32.ofNat len)), .val .null, .unset] [.int z])) := c4.trans (st5 _ (Steps.refl _))
  have c7 : Steps p.tables e below (s₁.setTop (entryFrame m #[.ref a, .ref b, .int (Int32.ofNat o), .int (Int32.ofNat len), .null] 6)) (T5.setTop (mkF m 36 #[.val (.ref a), .val (.ref b), .val (.int (Int32.ofNat o)), .val (.int (Int32.ofNat len)), .val .null, .unset] [.int (Int32.ofNat len), .int (Int32.ofNat o), .ref b])) := c6.trans (by
    refine XS.ifNo X5.here hexec rfl (hb hbytes d30) rfl (i0_eq_f hz) ?_
    refine XS.aloadN X5.here hexec rfl (hb hbytes d33) rfl rfl ?_
    refine XS.iloadN X5.here hexec rfl (hb hbytes d34) rfl ?_
    refine XS.iloadN X5.here hexec rfl (hb hbytes d35) rfl ?_
    exact Steps.refl _)
  obtain ⟨v8, T8, X8, E8, g8⟩ := X5.callS hexec (Cmp3.law l b A o len) hown (wks W (staticW "java/lang/String" 177 Cmp3.yN)) (wk W Cmp3.tab) (W := 0) (Nat.le_of_ble_eq_true rfl) (Nat.le_of_ble_eq_true rfl) (Nat.le_refl _) (by show 0 + len ≤ len; omega) (g := (mkF m 36 #[.val (.ref a), .val (.ref b), .val (.int (Int32.ofNat o)), .val (.int (Int32.ofNat len)), .val .null, .unset] [.int (Int32.ofNat len), .int (Int32.ofNat o), .ref b])) rfl (by rw [hml]; rfl) c7 (argsL := [.ref b, .int (Int32.ofNat o), .int (Int32.ofNat len)]) (rest := []) rfl rfl (by show 2 * 0 + 0 ≤ _; decide) (hb hbytes d36) (⟨rfl, hA.mv X5.warmed.alike hh5, l1, l2, hp⟩)
  obtain ⟨e8, z8⟩ := E8
  obtain ⟨rfl, N, n1, n2, n3, n4, n5, n6⟩ := NewArr.mv _ T5 s _ _ hh5.symm (Vm.Alike.refl _) rfl e8
  rw [hh5] at z8
  have hB1 := hB.keep X8.warmed.alike (n6 _ _ hB.1)
  have hne : s.heap.size ≠ a := (Nat.ne_of_lt (Array.getElem?_eq_some_iff.mp hB.1).1).symm
  have c9 : Steps p.tables e below (s₁.setTop (entryFrame m #[.ref a, .ref b, .int (Int32.ofNat o), .int (Int32.ofNat len), .null] 6)) (T8.setTop (mkF m 39 #[.val (.ref a), .val (.ref b), .val (.int (Int32.ofNat o)), .val (.int (Int32.ofNat len)), .val .null, .unset] [.ref s.heap.size])) := g8
  have c10 : Steps p.tables e below (s₁.setTop (entryFrame m #[.ref a, .ref b, .int (Int32.ofNat o), .int (Int32.ofNat len), .null] 6)) (T8.setTop (mkF m 45 #[.val (.ref a), .val (.ref b), .val (.int (Int32.ofNat o)), .val (.int (Int32.ofNat len)), .val .null, .val (.ref s.heap.size)] [.int (Int32.ofNat N.slots.size), .ref s.heap.size, .ref a])) := by
    have hc : Steps p.tables e below (s₁.setTop (entryFrame m #[.ref a, .ref b, .int (Int32.ofNat o), .int (Int32.ofNat len), .null] 6)) (T8.setTop (mkF m 45 #[.val (.ref a), .val (.ref b), .val (.int (Int32.ofNat o)), .val (.int (Int32.ofNat len)), .val .null, .val (.ref s.heap.size)] [.int (Int32.ofNat len), .ref s.heap.size, .ref a])) := c9.trans (by
      refine XS.astore X8.here hexec rfl (hb hbytes d39) rfl rfl rfl ?_
      refine XS.aloadN X8.here hexec rfl (hb hbytes d41) rfl rfl ?_
      refine XS.aload X8.here hexec rfl (hb hbytes d42) rfl rfl ?_
      refine XS.iloadN X8.here hexec rfl (hb hbytes d44) rfl ?_
      exact Steps.refl _)
    rw [n4]; exact hc
  obtain ⟨v11, T11, X11, E11, g11⟩ := X8.callS hexec (CodL.law l s.heap.size N) hown (wks W (staticW "java/lang/String" 47 CodL.yN)) (wk W CodL.tab) (W := 1) (Nat.le_of_ble_eq_true rfl) (Nat.le_of_ble_eq_true rfl) (Nat.le_refl _) (by show 0 + len + 0 ≤ len; omega) (g := (mkF m 45 #[.val (.ref a), .val (.ref b), .val (.int (Int32.ofNat o)), .val (.int (Int32.ofNat len)), .val .null, .val (.ref s.heap.size)] [.int (Int32.ofNat N.slots.size), .ref s.heap.size, .ref a])) rfl (by rw [hml]; rfl) c10 (argsL := [.ref s.heap.size, .int (Int32.ofNat N.slots.size)]) (rest := [.ref a]) rfl rfl (by show 2 * 0 + (1 + 0) ≤ _; decide) (hb hbytes d45) (⟨rfl, n1⟩)
  obtain ⟨rfl, q11⟩ := E11
  have hB11 := hB1.mv (X8.warmed.alike.symm.trans X11.warmed.alike) q11
  have c12 : Steps p.tables e below (s₁.setTop (entryFrame m #[.ref a, .ref b, .int (Int32.ofNat o), .int (Int32.ofNat len), .null] 6)) (T11.setTop (mkF m 48 #[.val (.ref a), .val (.ref b), .val (.int (Int32.ofNat o)), .val (.int (Int32.ofNat len)), .val .null, .val (.ref s.heap.size)] [.int 0, .ref a])) := g11
  obtain ⟨T13, X13, p13, bl13, sl13, st13⟩ := X11.finit hexec hown (wk W (.fieldLink "java/lang/String" 15 "java/lang/String" "coder" "B")) (Or.inr ⟨_, (wk W (.laysFinal "java/lang/String" "java/lang/String" "coder" "B"))⟩) (Or.inl ⟨rfl, hnm⟩) f2 (Or.inl rfl) hB11 (t := .byte) (by decide +kernel) rfl (g := (mkF m 48 #[.val (.ref a), .val (.ref b), .val (.int (Int32.ofNat o)), .val (.int (Int32.ofNat len)), .val .null, .val (.ref s.heap.size)] [.int 0, .ref a])) rfl (rest := []) rfl (hb hbytes d48)
  have c14 : Steps p.tables e below (s₁.setTop (entryFrame m #[.ref a, .ref b, .int (Int32.ofNat o), .int (Int32.ofNat len), .null] 6)) (T13.setTop (mkF m 54 #[.val (.ref a), .val (.ref b), .val (.int (Int32.ofNat o)), .val (.int (Int32.ofNat len)), .val .null, .val (.ref s.heap.size)] [.ref s.heap.size, .ref a])) := (c12.trans (st13 _ (Steps.refl _))).trans (by
    refine XS.aloadN X13.here hexec rfl (hb hbytes d51) rfl rfl ?_
    refine XS.aload X13.here hexec rfl (hb hbytes d52) rfl rfl ?_
    exact Steps.refl _)
  obtain ⟨T15, X15, p15, bl15, sl15, st15⟩ := X13.finit hexec hown (wk W (.fieldLink "java/lang/String" 9 "java/lang/String" "value" "[B")) (Or.inr ⟨_, (wk W (.laysFinal "java/lang/String" "java/lang/String" "value" "[B"))⟩) (Or.inl ⟨rfl, hnm⟩) f1 (Or.inl rfl) bl13 (t := (.array .byte)) (by decide +kernel) rfl (g := (mkF m 54 #[.val (.ref a), .val (.ref b), .val (.int (Int32.ofNat o)), .val (.int (Int32.ofNat len)), .val .null, .val (.ref s.heap.size)] [.ref s.heap.size, .ref a])) rfl (rest := []) rfl (hb hbytes d54)
  have c16 : Steps p.tables e below (s₁.setTop (entryFrame m #[.ref a, .ref b, .int (Int32.ofNat o), .int (Int32.ofNat len), .null] 6)) (T15.setTop (mkF m 57 #[.val (.ref a), .val (.ref b), .val (.int (Int32.ofNat o)), .val (.int (Int32.ofNat len)), .val .null, .val (.ref s.heap.size)] [])) := c14.trans (st15 _ (Steps.refl _))
  have ap := apart (Or.inr ⟨_, (wk W (.laysFinal "java/lang/String" "java/lang/String" "value" "[B"))⟩) (Or.inr ⟨_, (wk W (.laysFinal "java/lang/String" "java/lang/String" "coder" "B"))⟩) f1 f2 (t₁ := .array .byte) (t₂ := .byte) (by decide +kernel) (by decide +kernel) (by decide)
  have al := X8.warmed.alike.symm.trans X15.warmed.alike
  have n7 : T11.heap[s.heap.size]? = some N := by rw [q11]; exact n1.1
  exact ⟨T15, none, _, _, _, X15, by simp, rfl, by omega, (fun _ => rfl), ⟨rfl, _, N, bl15, ((Same.refl D _).set _ (by simp)).set _ (by simp), sl15, (Cell.slots_setSlot_ne _ ap).trans sl13, n1.keep al (p15.other hne (p13.other hne n7)), n2, by rw [al.findClass]; exact n3, n4, n5, fun y c h1 h2 => p15.other h1 (p13.other h1 (by rw [q11]; exact n6 y c h2)), by rw [p15.2.2, p13.2.2, q11]; exact z8⟩, fun fs hl => c16.trans (X15.returnOut hexec hret (hb hbytes d57) hl)⟩
end New4
namespace New1
def yN : MethodName := ⟨"java/lang/String", "<init>", "([C)V"⟩
abbrev yB : ByteArray := jdk_42_method_3_code
theorem d0 : decode yB 0 = .ok (.aload_n 0, 1) := by decide +kernel
theorem d1 : decode yB 1 = .ok (.aload_n 1, 1) := by decide +kernel
theorem d2 : decode yB 2 = .ok (.iconst 0, 1) := by decide +kernel
theorem d3 : decode yB 3 = .ok (.aload_n 1, 1) := by decide +kernel
theorem d4 : decode yB 4 = .ok (.arraylength, 1) := by decide +kernel
theorem d5 : decode yB 5 = .ok (.aconst_null, 1) := by decide +kernel
theorem d6 : decode yB 6 = .ok (.invokespecial 27, 3) := by decide +kernel
theorem d9 : decode yB 9 = .ok (.return_, 1) := by decide +kernel
def site : List Cond := [New4.tab] ++ initW "java/lang/String" 27 New4.yN
def tab : Cond := tabOf yN yB 2 none site
def P (a : Addr) (D : Cell) (fV fC : Field) (b : Addr) (A : Cell) (z : Int32) (args : Array Value) (s : State) : Prop := args = #[.ref a, .ref b] ∧ Blank "java/lang/String" a D s ∧ Found "java/lang/String" "value" "[B" fV s ∧ Found "java/lang/String" "coder" "B" fC s ∧ Ch b A s ∧ StaticIs s "java/lang/String" "COMPACT_STRINGS" "Z" (.int z) ∧ ¬ z = 0 ∧ 0 < A.slots.size ∧ A.slots.size ≤ 536870912 ∧ ∀ i, i < A.slots.size → ¬ 255 < cv A i
def E (a : Addr) (D : Cell) (fV fC : Field) (A : Cell) (r : Option Value) (s u : State) : Prop := Got a D fV fC A 0 A.slots.size r s u
/-- new String(chars), not empty, no char above 255: a Latin-1 String of their low bytes -/
theorem law (l : Launch) (a : Addr) (D : Cell) (fV fC : Field) (b : Addr) (A : Cell) (z : Int32) : Law l yN 2 1 3 52 yB 2 none site (P a D fV fC b A z) (E a D fV fC A) [⟨a, fC.slot⟩, ⟨a, fV.slot⟩] 1 A.slots.size := by
  refine Law.of_walk (plainFor_of_name (by decide +kernel)) (by decide +kernel) (by decide +kernel) (by decide) (fun _ _ h => by rw [h.1]; rfl) (fun _ U U' hal hh h => ⟨h.1, h.2.1.mv hal hh, h.2.2.1.al hal, h.2.2.2.1.al hal, h.2.2.2.2.1.mv hal hh, h.2.2.2.2.2.1.there hal hh, h.2.2.2.2.2.2⟩) (fun r U U' V V' h1 hal h2 h => Got.mv r U U' V V' h1 hal h2 h) ?_
  intro p e s m args below meth c s₁ X0 hexec hbytes hml hret hlk hnm hown hh0 W hP
  obtain ⟨rfl, hB, f1, f2, hA, s1, hz, l0, l2, hp⟩ := hP
  have c1 : Steps p.tables e below (s₁.setTop (entryFrame m #[.ref a, .ref b] 2)) (s₁.setTop (mkF m 0 #[.val (.ref a), .val (.ref b)] [])) := entry rfl
  have c2 : Steps p.tables e below (s₁.setTop (entryFrame m #[.ref a, .ref b] 2)) (s₁.setTop (mkF m 6 #[.val (.ref a), .val (.ref b)] [.null, .int (Int32.ofNat A.slots.size), .int 0, .ref b, .ref a])) := c1.trans (by
    refine XS.aloadN X0.here hexec rfl (hb hbytes d0) rfl rfl ?_
    refine XS.aloadN X0.here hexec rfl (hb hbytes d1) rfl rfl ?_
    refine iconstV X0.here hexec rfl 0 (hb hbytes d2) (by decide) ?_
    refine XS.aloadN X0.here hexec rfl (hb hbytes d3) rfl rfl ?_
    refine X0.alen hexec (hA.1.mv X0.warmed.alike hh0) rfl rfl (hb hbytes d4) ?_
    refine XS.aconstNull X0.here hexec rfl (hb hbytes d5) ?_
    exact Steps.refl _)
  obtain ⟨v3, T3, X3, E3, g3⟩ := X0.callN hexec (New4.law l a D fV fC b A z 0 A.slots.size) rfl hown (wks W (initW "java/lang/String" 27 New4.yN)) (W New4.tab (by simp only [site, List.mem_cons, List.mem_append, true_or, or_true])) (W := 0) (Nat.le_of_ble_eq_true rfl) (Nat.le_of_ble_eq_true rfl) (Nat.le_refl _) (by show 0 + A.slots.size ≤ A.slots.size; omega) (g := (mkF m 6 #[.val (.ref a), .val (.ref b)] [.null, .int (Int32.ofNat A.slots.size), .int (Int32.ofNat 0), .ref b, .ref a])) rfl (by rw [hml]; rfl) c2 (argsL := [.ref b, .int (Int32.ofNat 0), .int (Int32.ofNat A.slots.size), .null]) (rest := []) rfl rfl (by show 2 * 0 + 0 ≤ _; decide) (hb hbytes d6) (⟨rfl, hB.mv X0.warmed.alike hh0, f1.al X0.warmed.alike, f2.al X0.warmed.alike, hA.mv X0.warmed.alike hh0, s1.there X0.warmed.alike hh0, hz, l0, by omega, l2, fun i hi => by rw [Nat.zero_add]; exact hp i hi⟩)
  have e0 := Got.mv _ s₁ s _ _ hh0.symm (Vm.Alike.refl _) rfl E3
  obtain rfl := e0.1
  have c4 : Steps p.tables e below (s₁.setTop (entryFrame m #[.ref a, .ref b] 2)) (T3.setTop (mkF m 9 #[.val (.ref a), .val (.ref b)] [])) := g3
  exact ⟨T3, none, _, _, _, X3, by simp, rfl, by omega, (fun _ => rfl), e0, fun fs hl => c4.trans (X3.returnOut hexec hret (hb hbytes d9) hl)⟩
theorem pays {l : Launch} {R : Room} {p : Program} {e : Env} {below : List Frame} {s : State} {sargs : Array Value} {len W : Nat} (a : Addr) (D : Cell) (fV fC : Field) (b : Addr) (A : Cell) (z : Int32) (htab : tab.before sargs s = true) (hfr : 4 ≤ R.frames) (hlo : W + 65 ≤ R.locals) :
    Back l R p e below s sargs yN len W (fun A₁ a₁ => A₁.cells + 1 ≤ R.cells ∧ A₁.slots + A.slots.size ≤ R.slots ∧ P a D fV fC b A z a₁ A₁.U) (fun A₁ _ v₁ B₁ => E a D fV fC A v₁ A₁.U B₁.U ∧ B₁.locs = A₁.locs ++ [⟨a, fC.slot⟩, ⟨a, fV.slot⟩] ∧ B₁.cells = A₁.cells + 1 ∧ B₁.slots = A₁.slots + A.slots.size) :=
  (law l a D fV fC b A z).pays htab hfr (by omega)
end New1
/-- the byte, read back as charAt reads it, is the char -/
theorem lo8_mask {x : Int32} (h0 : ¬ x < 0) (h1 : ¬ 255 < x) : lo8 x &&& 255 = x := by
  have t : ∀ k : Fin 256, lo8 (Int32.ofNat k.val) &&& 255 = Int32.ofNat k.val := by decide +kernel
  rw [Int32.lt_iff_toInt_lt] at h0 h1
  have e0 : (0 : Int32).toInt = 0 := rfl
  have e1 : (255 : Int32).toInt = 255 := rfl
  obtain ⟨k, hk⟩ : ∃ k : Nat, x.toInt = k := ⟨x.toInt.toNat, by omega⟩
  have hx : x = Int32.ofNat k := Int32.toInt_inj.mp (by rw [hk, Int32.toInt_ofNat_small (by omega)])
  rw [hx]
  exact t ⟨k, by omega⟩
end StrChars
namespace StrChars.Road
open Jvm Sem ClassFile Op Lib Jvm.Stand Jvm.Free Jvm.Free.XT
open Jvm.Lib.Cold (StaticIs)
abbrev ST : String := "java/lang/String"
/-- every table word that New1's law asks, flat -/
abbrev words : List Jvm.Cond := [.code New1.yN New1.yB 2 none, .initialized ST, .methodLink ST 27 New4.yN, .instanceMethod New4.yN,
  .code New4.yN New4.yB 6 none, .fieldLink ST 38 ST "COMPACT_STRINGS" "Z", .laysFinal ST ST "value" "[B", .fieldLink ST 9 ST "value" "[B", .laysFinal ST ST "coder" "B", .fieldLink ST 15 ST "coder" "B",
  .methodLink ST 1 Lib.objectInit, .instanceMethod Lib.objectInit, .code Lib.objectInit ⟨#[0xb1]⟩ 1 none, .methodLink ST 177 Cmp3.yN, .static Cmp3.yN, .methodLink ST 47 CodL.yN, .static CodL.yN,
  .code Cmp3.yN Cmp3.yB 6 (some (.array .byte)), .initialized U16, .arrayClass .byte, .methodLink U16 115 Cmp5.yN, .static Cmp5.yN, .code Cmp5.yN Cmp5.yB 7 (some .int), .code CodL.yN CodL.yB 2 (some .byte)]
theorem tab_of {a : Array Value} {s : State} (h : ∀ w ∈ words, w.before a s = true) : New1.tab.before a s = true := by
  have h5 : Cmp5.tab.before a s = true := unparts (wk h (.code Cmp5.yN Cmp5.yB 7 (some .int))) (wks h (.initialized Cmp5.yN.cls :: Cmp5.site))
  have hc : CodL.tab.before a s = true := unparts (wk h (.code CodL.yN CodL.yB 2 (some .byte))) (wks h (.initialized CodL.yN.cls :: CodL.site))
  have q5 : ∀ w ∈ Cmp5.tab :: words, w.before a s = true := fun w hw => (List.mem_cons.mp hw).elim (fun e => e ▸ h5) (h w)
  have h3 : Cmp3.tab.before a s = true := unparts (wk q5 (.code Cmp3.yN Cmp3.yB 6 (some (.array .byte)))) (wks q5 (.initialized Cmp3.yN.cls :: Cmp3.site))
  have q3 : ∀ w ∈ Cmp3.tab :: CodL.tab :: words, w.before a s = true := fun w hw => (List.mem_cons.mp hw).elim (fun e => e ▸ h3) fun hw => (List.mem_cons.mp hw).elim (fun e => e ▸ hc) (h w)
  have h4 : New4.tab.before a s = true := unparts (wk q3 (.code New4.yN New4.yB 6 none)) (wks q3 (.initialized New4.yN.cls :: New4.site))
  have q4 : ∀ w ∈ New4.tab :: words, w.before a s = true := fun w hw => (List.mem_cons.mp hw).elim (fun e => e ▸ h4) (h w)
  exact unparts (wk q4 (.code New1.yN New1.yB 2 none)) (wks q4 (.initialized New1.yN.cls :: New1.site))
/-- the words ride from the start Z to the walk's own state -/
theorem moved {Z s : State} {a0 args : Array Value} (hZ : Z.Warmed39 s.vm) (hw : ∀ d ∈ words, d.before a0 Z = true) : ∀ d ∈ words, d.before args s = true := fun d hd => by
  have q := hw d hd
  have t : ∀ d ∈ words, d = .arrayClass .byte ∨ (d.onTables && d.keepsFace) = true := by decide +kernel
  rcases t d hd with rfl | t
  · exact RoadKit.mvA hZ q
  · exact RoadKit.mv hZ q t
/-- WHAT COMES BACK, over the tables of the start Z: h the heap at the call, h' behind it -/
def Q (Z : State) (x : Addr) (A : Cell) (h : Heap) (v : Option Value) (h' : Heap) (L : List Loc) : Prop := v = none ∧ (∀ y ∈ L, y.base = x) ∧ RoadKit.Keep h h' [x] ∧ h'.size = h.size + 1 ∧ RoadKit.Exa Z h' x ST ∧ RoadKit.Fld Z h' x ST "value" "[B" (.ref h.size) ∧ RoadKit.Fld Z h' x ST "coder" "B" (.int 0) ∧
  (∃ V : Cell, RoadKit.Arr Z h' h.size V .byte ∧ V.vm = .none ∧ Z.vm.findClass "[B" = some V.cls ∧ V.slots.size = A.slots.size ∧ ∀ j, j < A.slots.size → V.slots[j]? = some (.int (lo8 (cv A j)))) ∧
  ∀ (O n d : String) (w : Value), RoadKit.Fld Z h x O n d w → RoadKit.slotOf Z O n d ≠ RoadKit.slotOf Z ST "value" "[B" → RoadKit.slotOf Z O n d ≠ RoadKit.slotOf Z ST "coder" "B" → RoadKit.Fld Z h' x O n d w
/-- **new String(chars) AT A CALL, IN THE ROAD'S FORM**: for specialBack behind newO: x the fresh String, b the char[] with the cell A -/
theorem back {p : Program} {l : Launch} {e : Env} {R : Room} {s : State} {args : Array Value} {below : List Frame} {len W : Nat} {Z : State} {a0 : Array Value} {h : Heap} (hZ : Z.Warmed39 s.vm) (hw : ∀ d ∈ words, d.before a0 Z = true) {kI : Nat} (wi : (Jvm.Cond.instantiable ST kI).before a0 Z = true)
    {x b : Addr} {A : Cell} {z : Int32} {v0 c0 : Value} (E : RoadKit.Exa Z h x ST) (V : RoadKit.Fld Z h x ST "value" "[B" v0) (C : RoadKit.Fld Z h x ST "coder" "B" c0) (K : RoadKit.Arr Z h b A .char) (hty : Typed .char A) (S : RoadKit.Sta Z h ST "COMPACT_STRINGS" "Z" (.int z)) (hz : ¬ z = 0)
    (l0 : 0 < A.slots.size) (l2 : A.slots.size ≤ 536870912) (hp : ∀ i, i < A.slots.size → ¬ 255 < cv A i) (hfr : 4 ≤ R.frames) (hlo : W + 65 ≤ R.locals) :
    Back l R p e below s args New1.yN len W (fun P a => a = #[.ref x, .ref b] ∧ P.U.heap = h ∧ P.cells + 1 ≤ R.cells ∧ P.slots + A.slots.size ≤ R.slots)
      (fun P _ v B => ∃ L, Q Z x A h v B.U.heap L ∧ B.locs = P.locs ++ L ∧ B.cells = P.cells + 1 ∧ B.slots = P.slots + A.slots.size) := by
  intro m meth c P g ig mk a X hg hsize hdg hW hn hp'
  obtain ⟨rfl, rfl, r1, r2⟩ := hp'
  have al : Z.vm.Alike P.U.vm := hZ.alike.trans X.warmed.alike
  obtain ⟨D, cfV, kV, iV, fV, hD, gV, stV, knV, obV, asV, slV⟩ := id V
  obtain ⟨D', cfC, kC, iC, fC, hD', gC, stC, -, -, asC, slC⟩ := id C
  cases hD.symm.trans hD'
  obtain ⟨D2, kD, e1, e2, e3, e4, e5⟩ := id E
  cases hD.symm.trans e1
  obtain ⟨c2, k2, i1, i2, i3, -⟩ := Cond.instantiable_spec wi
  cases e2.symm.trans i1
  cases e3.symm.trans i2
  obtain ⟨kU, u1, u2⟩ := al.2.2 _ _ e3
  have hB : Blank ST x D P.U := ⟨hD, ⟨knV, fun q hq => by rw [hq] at obV; cases obV⟩, by rw [al.findClass]; exact e2, kU, u1, by rw [u2]; exact i3, by rw [u2]; exact e5 i3⟩
  have F1 : Found ST "value" "[B" fV P.U := ⟨SBG.found_only al ⟨cfV, kV, iV, gV⟩, stV⟩
  have F2 : Found ST "coder" "B" fC P.U := ⟨SBG.found_only al ⟨cfC, kC, iC, gC⟩, stC⟩
  have hA : Ch b A P.U := ⟨⟨K.1, State.isArrayOf_alike al K.2.1, K.2.2, by omega⟩, hty⟩
  have hS : StaticIs P.U ST "COMPACT_STRINGS" "Z" (.int z) := by
    obtain ⟨cfS, iS, kS, fS, st, cS, t1, t2, t3, t4, t5, t6, t7⟩ := S
    exact StaticIs.there (s := { Z with heap := P.U.heap }) ⟨cfS, iS, kS, fS, st, cS, t1, t2, t3, t4, t5, (fun q => by rw [q] at t6; cases t6), t7⟩ al rfl
  obtain ⟨v, B, X', ⟨⟨hv, E', V', q1, q2, q3, q4, q5, q6, q7, q8, q9, q10, q11⟩, hl, hc, hs⟩, st⟩ := New1.pays x D fV fC b A z (tab_of (moved hZ hw)) hfr hlo m meth c P g ig mk _ X hg hsize hdg hW hn ⟨r1, r2, rfl, hB, F1, F2, hA, hS, hz, l0, l2, hp⟩
  have al' : Z.vm.Alike B.U.vm := hZ.alike.trans X'.warmed.alike
  have hsz : E'.slots.size = D.slots.size := by
    obtain ⟨-, -, -, kB, w1, w2, w3⟩ := q1
    obtain ⟨kB', y1, y2⟩ := al'.2.2 _ _ e3
    rw [q2.2.1] at w1
    cases w1.symm.trans y1
    rw [w3, e5 i3, y2]
  refine ⟨v, B, X', ⟨_, ⟨hv, ?_, ⟨by omega, fun y cy hy hn' => q10 y cy (by simpa using hn') hy, fun y cy hy => ?_⟩, q11, ⟨E', _, q1.1, by rw [q2.2.1]; exact e2, by rw [q2.2.1]; exact e3, by rw [q2.1]; exact obV, fun _ => by rw [hsz]; exact e5 i3⟩,
    ⟨E', cfV, kV, iV, fV, q1.1, gV, stV, by rw [q2.1]; exact knV, by rw [q2.1]; exact obV, by rw [q2.2.1]; exact asV, q3⟩, ⟨E', cfC, kC, iC, fC, q1.1, gC, stC, by rw [q2.1]; exact knV, by rw [q2.1]; exact obV, by rw [q2.2.1]; exact asC, q4⟩,
    ⟨V', ⟨q5.1, State.isArrayOf_alike al'.symm q5.2.1, q5.2.2.1⟩, q6, by rw [← al'.findClass]; exact q7, q8, fun j hj => by have := q9 j hj; rwa [Nat.zero_add] at this⟩, fun O n d w F n1 n2 => ?_⟩, hl, hc, hs⟩, st⟩
  · intro y hy
    simp only [List.mem_cons, List.not_mem_nil, or_false] at hy
    rcases hy with rfl | rfl <;> rfl
  · by_cases q : y = x
    · subst q
      cases hD.symm.trans hy
      exact ⟨E', q1.1, q2.2.1, q2.1, hsz⟩
    · exact ⟨cy, q10 y cy q hy, rfl, rfl, rfl⟩
  · obtain ⟨D3, cf, k, i, f, g1, g2, g3, g4, g5, g6, g7⟩ := F
    cases hD.symm.trans g1
    simp only [RoadKit.slotOf, g2, gV, gC, Option.map_some, Option.getD_some] at n1 n2
    exact ⟨E', cf, k, i, f, q1.1, g2, g3, by rw [q2.1]; exact g4, by rw [q2.1]; exact g5, by rw [q2.2.1]; exact g6, by rw [q2.2.2 f.slot (by simp [n1, n2])]; exact g7⟩
end StrChars.Road
namespace StrChars.Road
open Jvm Sem ClassFile Op Lib Jvm.Stand Jvm.Free Jvm.Free.XT
/-- WHAT COMES BACK, the byte[] as a list of values -/
def QA (Z : State) (x : Addr) (zn : Int32) (cs : List Int32) (h : Heap) (v : Option Value) (h' : Heap) (L : List Loc) : Prop := v = none ∧ (∀ y ∈ L, y.base = x) ∧ RoadKit.Keep h h' [x] ∧ h'.size = h.size + 1 ∧ RoadKit.Exa Z h' x ST ∧ RoadKit.Fld Z h' x ST "value" "[B" (.ref h.size) ∧ RoadKit.Fld Z h' x ST "coder" "B" (.int 0) ∧
  (∃ kb, Z.vm.findClass "[B" = some kb ∧ RoadKit.Arv Z h' h.size kb .byte zn (cs.map fun c => .int (lo8 c)) (.int 0)) ∧
  ∀ (O n d : String) (w : Value), RoadKit.Fld Z h x O n d w → RoadKit.slotOf Z O n d ≠ RoadKit.slotOf Z ST "value" "[B" → RoadKit.slotOf Z O n d ≠ RoadKit.slotOf Z ST "coder" "B" → RoadKit.Fld Z h' x O n d w
/-- **new String(chars) AT A CALL, THE ARRAYS AS LISTS**: the char[] at b holds cs, not empty, no char above 255 -/
theorem backArv {p : Program} {l : Launch} {e : Env} {R : Room} {s : State} {args : Array Value} {below : List Frame} {len W : Nat} {Z : State} {a0 : Array Value} {h : Heap} (hZ : Z.Warmed39 s.vm) (hw : ∀ d ∈ words, d.before a0 Z = true) {kI : Nat} (wi : (Jvm.Cond.instantiable ST kI).before a0 Z = true)
    {x b : Addr} {k : ClassId} {zn z : Int32} {cs : List Int32} {dv v0 c0 : Value} (E : RoadKit.Exa Z h x ST) (V : RoadKit.Fld Z h x ST "value" "[B" v0) (C : RoadKit.Fld Z h x ST "coder" "B" c0) (K : RoadKit.Arv Z h b k .char zn (cs.map Value.int) dv) (S : RoadKit.Sta Z h ST "COMPACT_STRINGS" "Z" (.int z)) (hz : ¬ z = 0)
    (hlen : zn.toNatClampNeg = cs.length) (h0 : 0 < cs.length) (hbig : cs.length ≤ 536870912) (hall : ∀ c ∈ cs, ¬ 255 < c) (hfr : 4 ≤ R.frames) (hlo : W + 65 ≤ R.locals) :
    Back l R p e below s args New1.yN len W (fun P a => a = #[.ref x, .ref b] ∧ P.U.heap = h ∧ P.cells + 1 ≤ R.cells ∧ P.slots + cs.length ≤ R.slots)
      (fun P _ v B => ∃ L, QA Z x zn cs h v B.U.heap L ∧ B.locs = P.locs ++ L ∧ B.cells = P.cells + 1 ∧ B.slots = P.slots + cs.length) := by
  obtain ⟨A, K1, K2, K3, K4, K5, K6⟩ := K
  have e : A.slots.size = cs.length := K3.trans hlen
  have hat : ∀ (i : Nat) (hi : i < cs.length), A.slots[i]? = some (.int cs[i]) := fun i hi => by rw [K5 i (by omega)]; simp [List.getD_eq_getElem?_getD, hi]
  have hcv : ∀ (i : Nat) (hi : i < cs.length), cv A i = cs[i] := fun i hi => by unfold cv; rw [hat i hi]
  have hty : Typed .char A := fun i v hv => by
    have hi : i < A.slots.size := (Array.getElem?_eq_some_iff.mp hv).1
    have q := K5 i hi
    rw [hv] at q
    rw [Option.some.inj q]
    exact K6 i hi
  refine Back.mono (back hZ hw wi E V C K1 hty S hz (by omega) (by omega) (fun i hi => by rw [hcv i (by omega)]; exact hall _ (List.getElem_mem _)) hfr hlo) (fun P a hp => ⟨hp.1, hp.2.1, hp.2.2.1, by rw [e]; exact hp.2.2.2⟩) (fun P a v B hp hq => ?_)
  obtain ⟨L, ⟨q1, q2, q3, q4, q5, q6, q7, ⟨V', v1, v2, v3, v4, v5⟩, q9⟩, hl, hc, hs⟩ := hq
  refine ⟨L, ⟨q1, q2, q3, q4, q5, q6, q7, ⟨V'.cls, v3, V', v1, rfl, by rw [v4, e, hlen], K4, fun i hi => ?_, fun i hi => ?_⟩, q9⟩, hl, hc, by rw [hs, e]⟩
  · have hi' : i < cs.length := by omega
    rw [v5 i (by omega), hcv i hi']; simp [List.getD_eq_getElem?_getD, hi']
  · have hi' : i < cs.length := by omega
    simp only [List.getD_eq_getElem?_getD, List.getElem?_map, List.getElem?_eq_getElem hi', Option.map_some, Option.getD_some]
    exact fits_lo8 _
end StrChars.Road
namespace StrChars.Road
open Jvm Sem ClassFile Op Lib Jvm.Stand Jvm.Free Jvm.Free.XT
/-- WHAT COMES BACK, in the writer's own shape -/
def QV (Z : State) (x : Addr) (N : Int32) (bs : List Int32) (h : Heap) (n0 : Nat) (v : Option Value) (h' : Heap) (L : List Loc) : Prop := v = none ∧ RoadKit.Fr n0 L ∧ RoadKit.Keep h h' [x] ∧ RoadKit.Exa Z h' x ST ∧ RoadKit.Fld Z h' x ST "coder" "B" (.int 0) ∧
  ∃ (t : Addr) (kb : ClassId), n0 ≤ t ∧ h.size ≤ t ∧ ¬ t = x ∧ RoadKit.Fld Z h' x ST "value" "[B" (.ref t) ∧ RoadKit.Arv Z h' t kb .byte N (bs.map Value.int) (.int 0)
/-- **new String(chars) AT A CALL, FOR THE WRITER**: a char[] of n known ints, each 0 to 255 -/
theorem backV {p : Program} {l : Launch} {e : Env} {R : Room} {s : State} {args : Array Value} {below : List Frame} {len W : Nat} {Z : State} {a0 : Array Value} {h : Heap} (hZ : Z.Warmed39 s.vm) (hw : ∀ d ∈ words, d.before a0 Z = true) {kI : Nat} (wi : (Jvm.Cond.instantiable ST kI).before a0 Z = true)
    {x b : Addr} {kC : ClassId} {cs bs : List Int32} {d v0 c0 : Value} {z N : Int32} {n n0 : Nat} (hx0 : n0 ≤ x) (hh0 : n0 ≤ h.size) (E : RoadKit.Exa Z h x ST) (V : RoadKit.Fld Z h x ST "value" "[B" v0) (C : RoadKit.Fld Z h x ST "coder" "B" c0) (K : RoadKit.Arv Z h b kC .char N (cs.map Value.int) d) (S : RoadKit.Sta Z h ST "COMPACT_STRINGS" "Z" (.int z)) (hz : ¬ z = 0)
    (hn : cs.length = n) (hN : N = Int32.ofNat n) (l0 : 0 < n) (l2 : n ≤ 4000) (hp : ∀ c ∈ cs, ¬ c < 0 ∧ ¬ (255 : Int32) < c) (hb : bs = cs.map (fun c => c.toInt8.toInt32)) (hfr : 4 ≤ R.frames) (hlo : W + 65 ≤ R.locals) :
    Back l R p e below s args (⟨"java/lang/String", "<init>", "([C)V"⟩ : MethodName) len W (fun P a => a = #[.ref x, .ref b] ∧ P.U.heap = h ∧ P.cells + 1 ≤ R.cells ∧ P.slots + n ≤ R.slots)
      (fun P _ v B => ∃ L, QV Z x N bs h n0 v B.U.heap L ∧ B.locs = P.locs ++ L ∧ B.cells = P.cells + 1 ∧ B.slots = P.slots + n) := by
  subst hn hN hb
  refine Back.mono (backArv hZ hw wi E V C K S hz (n32 (by omega)) l0 (by omega) (fun c hc => (hp c hc).2) hfr hlo) (fun P a hp => hp) (fun P a v B hp hq => ?_)
  obtain ⟨L, ⟨q1, q2, q3, q4, q5, q6, q7, ⟨kb, v1, v2⟩, q9⟩, hl, hc, hs⟩ := hq
  exact ⟨L, ⟨q1, fun y hy => by rw [q2 y hy]; exact hx0, q3, q5, q7, h.size, kb, hh0, Nat.le_refl _, Nat.ne_of_gt E.lt, q6, by rw [List.map_map]; exact v2⟩, hl, hc, hs⟩
end StrChars.Road
namespace StrChars
open Jvm Sem ClassFile Op Lib Jvm.Stand Jvm.Free.XT Jvm.Free.ALB Jvm.Free.JM Jvm.Free
open Jvm.Lib.Cold (StaticIs)
def hi8 (x : Int32) : Int32 := lo8 (x >>> ((8 : Int32) &&& 31))
/-- what StringUTF16.getChar makes of two bytes -/
def pairCh (u v : Int32) : Int32 := (((u &&& 255) <<< ((0 : Int32) &&& 31)) ||| ((v &&& 255) <<< ((8 : Int32) &&& 31))).toUInt32.toUInt16.toUInt32.toInt32
theorem lo8_and (x : Int32) : (lo8 x &&& 255).toBitVec.toNat = x.toBitVec.toNat % 256 := by
  have h : (lo8 x).toBitVec = (x.toBitVec.signExtend 8).signExtend 32 := by rw [lo8, Int8.toBitVec_toInt32, Int32.toBitVec_toInt8]
  rw [Int32.toBitVec_and, BitVec.toNat_and, h]
  have e : ((x.toBitVec.signExtend 8).signExtend 32).toNat % 256 = x.toBitVec.toNat % 256 := by
    rw [BitVec.toNat_signExtend]
    have hlt := x.toBitVec.isLt
    simp only [BitVec.toNat_setWidth, BitVec.toNat_signExtend]
    split <;> split <;> omega
  rw [← e]
  exact Nat.and_two_pow_sub_one_eq_mod _ 8
theorem pair_says {c : Int32} (h0 : ¬ c < 0) (h1 : ¬ 65535 < c) : pairCh (lo8 c) (hi8 c) = c := by
  rw [Int32.lt_iff_toInt_lt] at h0 h1
  have e0 : (0 : Int32).toInt = 0 := rfl
  have e1 : (65535 : Int32).toInt = 65535 := rfl
  have hc : c.toInt = c.toBitVec.toNat := by
    have := c.toBitVec.isLt
    have e : c.toInt = c.toBitVec.toInt := rfl
    rw [e] at h0 h1
    rw [e]
    rw [BitVec.toInt_eq_toNat_cond] at h0 h1 ⊢
    split at h0 <;> split <;> omega
  have hn : c.toBitVec.toNat < 65536 := by omega
  have a1 := lo8_and c
  have a2 : (hi8 c &&& 255).toBitVec.toNat = c.toBitVec.toNat / 256 := by
    rw [hi8, lo8_and]
    have e : ((8 : Int32) &&& 31) = 8 := by decide
    rw [e, Int32.toBitVec_shiftRight]
    have e2 : ((8 : Int32).toBitVec.smod 32) = 8#32 := by decide
    rw [e2, BitVec.sshiftRight_eq', BitVec.toNat_sshiftRight_of_msb_false (by rw [BitVec.msb_eq_false_iff_two_mul_lt]; omega)]
    show c.toBitVec.toNat >>> 8 % 256 = _
    rw [Nat.shiftRight_eq_div_pow]
    omega
  unfold pairCh
  apply Int32.toBitVec_inj.mp
  apply BitVec.eq_of_toNat_eq
  have f0 : ((0 : Int32) &&& 31) = 0 := by decide
  have f8 : ((8 : Int32) &&& 31) = 8 := by decide
  rw [f0, f8]
  have g : (((lo8 c &&& 255) <<< (0 : Int32)) ||| ((hi8 c &&& 255) <<< (8 : Int32))).toBitVec.toNat = c.toBitVec.toNat := by
    rw [Int32.toBitVec_or, Int32.toBitVec_shiftLeft, Int32.toBitVec_shiftLeft]
    have s0 : ((0 : Int32).toBitVec.smod 32) = 0#32 := by decide
    have s8 : ((8 : Int32).toBitVec.smod 32) = 8#32 := by decide
    rw [s0, s8, BitVec.toNat_or]
    simp only [BitVec.shiftLeft_eq', BitVec.toNat_shiftLeft, a1, a2]
    show (c.toBitVec.toNat % 256) <<< 0 % 2 ^ 32 ||| (c.toBitVec.toNat / 256) <<< 8 % 2 ^ 32 = _
    rw [Nat.shiftLeft_zero, Nat.mod_eq_of_lt (show c.toBitVec.toNat % 256 < 2 ^ 32 by omega), Nat.mod_eq_of_lt (show (c.toBitVec.toNat / 256) <<< 8 < 2 ^ 32 by rw [Nat.shiftLeft_eq]; omega), Nat.or_comm, ← Nat.shiftLeft_add_eq_or_of_lt (by omega), Nat.shiftLeft_eq]
    omega
  show BitVec.toNat (((((lo8 c &&& 255) <<< (0 : Int32)) ||| ((hi8 c &&& 255) <<< (8 : Int32))).toBitVec.setWidth 16).setWidth 32) = _
  rw [BitVec.toNat_setWidth, BitVec.toNat_setWidth, g]
  omega
end StrChars
namespace StrChars
open Jvm Sem ClassFile Op Lib Jvm.Stand Jvm.Free.XT Jvm.Free.ALB Jvm.Free.JM Jvm.Free
open Jvm.Lib.Cold (StaticIs)
/-- the array's cell V codes the n chars f 0 .. f (n - 1) by the coder cd, as the JDK does: coder 1 just where some char is above 255 -/
def Cod (cd : Int32) (n : Nat) (f : Nat → Int32) (V : Cell) : Prop := (cd = 0 ∧ V.slots.size = n ∧ ∀ j, j < n → V.slots[j]? = some (.int (lo8 (f j))) ∧ ¬ 255 < f j) ∨ (cd = 1 ∧ V.slots.size = 2 * n ∧ (∀ j, j < n → V.slots[2 * j]? = some (.int (lo8 (f j))) ∧ V.slots[2 * j + 1]? = some (.int (hi8 (f j)))) ∧ ∃ j, j < n ∧ 255 < f j)
/-- **x is a String of the n chars f 0 .. f (n - 1)**, Latin-1 or UTF-16; its array at t has the cell V -/
def Txt (x t : Addr) (V : Cell) (cd : Int32) (n : Nat) (f : Nat → Int32) (U : State) : Prop := Exact "java/lang/String" x U ∧ Has x "java/lang/String" "value" "[B" (.ref t) U ∧ Has x "java/lang/String" "coder" "B" (.int cd) U ∧ XT.Arr .byte t V U ∧ Cod cd n f V ∧ ∀ j, j < n → ¬ f j < 0 ∧ ¬ 65535 < f j
theorem Txt.mv {x t : Addr} {V : Cell} {cd : Int32} {n : Nat} {f : Nat → Int32} {U U' : State} (h : Txt x t V cd n f U) (hal : U.vm.Alike U'.vm) (hh : U'.heap = U.heap) : Txt x t V cd n f U' := ⟨h.1.mv hal hh, h.2.1.mv hal hh, h.2.2.1.mv hal hh, h.2.2.2.1.mv hal hh, h.2.2.2.2⟩
end StrChars
namespace StrChars.Road
open Jvm Sem ClassFile Op Lib Jvm.Stand Jvm.Free Jvm.Free.XT
open Jvm.Lib.Cold (StaticIs)
theorem consq {a : Array Value} {s : State} {c : Jvm.Cond} {L : List Jvm.Cond} (h0 : c.before a s = true) (h : ∀ w ∈ L, w.before a s = true) : ∀ w ∈ c :: L, w.before a s = true := fun w hw => (List.mem_cons.mp hw).elim (fun e => e ▸ h0) (h w)
/-- the bytes of the chars cs, low before high -/
def wideBytes : List Int32 → List Value
  | [] => []
  | c :: cs => .int (lo8 c) :: .int (hi8 c) :: wideBytes cs
theorem wide_lo (d : Value) : ∀ (cs : List Int32) (j : Nat), j < cs.length → (wideBytes cs).getD (2 * j) d = .int (lo8 (cs.getD j 0))
  | [], j, h => absurd h (Nat.not_lt_zero j)
  | c :: cs, 0, _ => rfl
  | c :: cs, j + 1, h => by
    have q := wide_lo d cs j (by simpa using h)
    rw [show 2 * (j + 1) = 2 * j + 1 + 1 from by omega]
    simpa [wideBytes] using q
theorem wide_hi (d : Value) : ∀ (cs : List Int32) (j : Nat), j < cs.length → (wideBytes cs).getD (2 * j + 1) d = .int (hi8 (cs.getD j 0))
  | [], j, h => absurd h (Nat.not_lt_zero j)
  | c :: cs, 0, _ => rfl
  | c :: cs, j + 1, h => by
    have q := wide_hi d cs j (by simpa using h)
    rw [show 2 * (j + 1) + 1 = 2 * j + 1 + 1 + 1 from by omega]
    simpa [wideBytes] using q
theorem low_at (d : Value) (cs : List Int32) (j : Nat) (h : j < cs.length) : (cs.map fun c => Value.int (lo8 c)).getD j d = .int (lo8 (cs.getD j 0)) := by
  simp [List.getD_eq_getElem?_getD, h]
/-- an array of N2 bytes vs codes the chars cs by the coder cd -/
def CodA (cs : List Int32) (cd N2 : Int32) (vs : List Value) : Prop := (cd = 0 ∧ N2 = Int32.ofNat cs.length ∧ vs = (cs.map fun c => Value.int (lo8 c)) ∧ ∀ c ∈ cs, ¬ 255 < c) ∨ (cd = 1 ∧ N2 = Int32.ofNat (2 * cs.length) ∧ vs = wideBytes cs ∧ ∃ c ∈ cs, 255 < c)
theorem CodA.cod {cs : List Int32} {cd N2 : Int32} {vs : List Value} {V : Cell} (h : CodA cs cd N2 vs) (hn : 2 * cs.length < 2 ^ 31) (hs : V.slots.size = N2.toNatClampNeg) (hv : RoadKit.Has V vs (.int 0)) : Cod cd cs.length (fun j => cs.getD j 0) V := by
  rcases h with ⟨rfl, rfl, rfl, h⟩ | ⟨rfl, rfl, rfl, c, hc, hw⟩
  · rw [n32 (by omega)] at hs
    exact Or.inl ⟨rfl, hs, fun j hj => ⟨by rw [hv j (by omega), low_at _ _ _ hj], by
      have e : cs.getD j 0 = cs[j] := by simp [List.getD_eq_getElem?_getD, hj]
      show ¬ 255 < cs.getD j 0
      rw [e]; exact h _ (List.getElem_mem _)⟩⟩
  · rw [n32 (by omega)] at hs
    obtain ⟨j, hj, rfl⟩ := List.getElem_of_mem hc
    exact Or.inr ⟨rfl, hs, fun j hj => ⟨by rw [hv _ (by omega), wide_lo _ _ _ hj], by rw [hv _ (by omega), wide_hi _ _ _ hj]⟩, j, hj, by
      have e : cs.getD j 0 = cs[j] := by simp [List.getD_eq_getElem?_getD, hj]
      show 255 < cs.getD j 0
      rw [e]; exact hw⟩
/-- an object of exactly java/lang/String, its two fields found: as the laws ask it -/
theorem strObj {Z U : State} {a0 : Array Value} {kI : Nat} (wi : (Jvm.Cond.instantiable ST kI).before a0 Z = true) (al : Z.vm.Alike U.vm) {x : Addr} {v0 c0 : Value} (E : RoadKit.Exa Z U.heap x ST) (V : RoadKit.Fld Z U.heap x ST "value" "[B" v0) (C : RoadKit.Fld Z U.heap x ST "coder" "B" c0) :
    ∃ (D : Cell) (fV fC : Field), Blank ST x D U ∧ Found ST "value" "[B" fV U ∧ Found ST "coder" "B" fC U ∧ D.slots[fV.slot]? = some v0 ∧ D.slots[fC.slot]? = some c0 ∧ RoadKit.slotOf Z ST "value" "[B" = fV.slot ∧ RoadKit.slotOf Z ST "coder" "B" = fC.slot := by
  obtain ⟨D, cfV, kV, iV, fV, hD, gV, stV, knV, obV, asV, slV⟩ := V
  obtain ⟨D', cfC, kC, iC, fC, hD', gC, stC, -, -, asC, slC⟩ := C
  cases hD.symm.trans hD'
  obtain ⟨D2, kD, e1, e2, e3, e4, e5⟩ := E
  cases hD.symm.trans e1
  obtain ⟨c2, k2, i1, i2, i3, -⟩ := Cond.instantiable_spec wi
  cases e2.symm.trans i1
  cases e3.symm.trans i2
  obtain ⟨kU, u1, u2⟩ := al.2.2 _ _ e3
  exact ⟨D, fV, fC, ⟨hD, ⟨knV, fun q hq => by rw [hq] at obV; cases obV⟩, by rw [al.findClass]; exact e2, kU, u1, by rw [u2]; exact i3, by rw [u2]; exact e5 i3⟩, ⟨SBG.found_only al ⟨cfV, kV, iV, gV⟩, stV⟩, ⟨SBG.found_only al ⟨cfC, kC, iC, gC⟩, stC⟩, slV, slC, by simp [RoadKit.slotOf, gV], by simp [RoadKit.slotOf, gC]⟩
theorem sta_is {Z U : State} (al : Z.vm.Alike U.vm) {C n d : String} {v : Value} (S : RoadKit.Sta Z U.heap C n d v) : StaticIs U C n d v := by
  obtain ⟨cfS, iS, kS, fS, st, cS, t1, t2, t3, t4, t5, t6, t7⟩ := S
  exact StaticIs.there (s := { Z with heap := U.heap }) ⟨cfS, iS, kS, fS, st, cS, t1, t2, t3, t4, t5, (fun q => by rw [q] at t6; cases t6), t7⟩ al rfl
end StrChars.Road
namespace StrChars
open Jvm Sem ClassFile Op Lib Jvm.Stand Jvm.Free.XT Jvm.Free.ALB Jvm.Free.JM Jvm.Free
open Jvm.Lib.Cold (StaticIs)
/-- what place i of a byte[]'s cell holds -/
def yv (A : Cell) (i : Nat) : Int32 := match A.slots[i]? with | some (.int x) => x | _ => 0
theorem yv_get {a : Addr} {A : Cell} {U : State} (h : XT.Arr .byte a A U) (ht : Typed .byte A) {i : Nat} (hi : i < A.slots.size) : A.slots[i]? = some (.int (yv A i)) := by
  have e := Array.getElem?_eq_getElem hi
  have f := ht i _ e
  unfold yv; rw [e]
  generalize A.slots[i] = v at f
  cases v <;> simp [fits] at f ⊢
/-- the two arrays are equal, place for place -/
def EqC (A B : Cell) : Prop := A.slots.size = B.slots.size ∧ ∀ i, i < A.slots.size → yv A i = yv B i
/-- a boolean that says whether p -/
def Says01 (q : Prop) (r : Option Value) (s u : State) : Prop := ∃ v : Int32, r = some (.int v) ∧ u.heap = s.heap ∧ ((v = 1 ∧ q) ∨ (v = 0 ∧ ¬ q))
theorem Says01.mv {q : Prop} : ∀ r (U U' V V' : State), U'.heap = U.heap → V.vm.Alike V'.vm → V'.heap = V.heap → Says01 q r U V → Says01 q r U' V' :=
  fun r U U' V V' h1 _ h2 ⟨v, a, b, c⟩ => ⟨v, a, by rw [h1, h2]; exact b, c⟩
namespace LEq
def yN : MethodName := ⟨"java/lang/StringLatin1", "equals", "([B[B)Z"⟩
abbrev yB : ByteArray := jdk_43_method_13_code
theorem d0 : decode yB 0 = .ok (.aload_n 0, 1) := by decide +kernel
theorem d1 : decode yB 1 = .ok (.arraylength, 1) := by decide +kernel
theorem d2 : decode yB 2 = .ok (.aload_n 1, 1) := by decide +kernel
theorem d3 : decode yB 3 = .ok (.arraylength, 1) := by decide +kernel
theorem d4 : decode yB 4 = .ok (.if_icmp (.ne) 30, 3) := by decide +kernel
theorem d7 : decode yB 7 = .ok (.iconst 0, 1) := by decide +kernel
theorem d8 : decode yB 8 = .ok (.istore_n 2, 1) := by decide +kernel
theorem d9 : decode yB 9 = .ok (.iload_n 2, 1) := by decide +kernel
theorem d10 : decode yB 10 = .ok (.aload_n 0, 1) := by decide +kernel
theorem d11 : decode yB 11 = .ok (.arraylength, 1) := by decide +kernel
theorem d12 : decode yB 12 = .ok (.if_icmp (.ge) 20, 3) := by decide +kernel
theorem d15 : decode yB 15 = .ok (.aload_n 0, 1) := by decide +kernel
theorem d16 : decode yB 16 = .ok (.iload_n 2, 1) := by decide +kernel
theorem d17 : decode yB 17 = .ok (.baload, 1) := by decide +kernel
theorem d18 : decode yB 18 = .ok (.aload_n 1, 1) := by decide +kernel
theorem d19 : decode yB 19 = .ok (.iload_n 2, 1) := by decide +kernel
theorem d20 : decode yB 20 = .ok (.baload, 1) := by decide +kernel
theorem d21 : decode yB 21 = .ok (.if_icmp (.eq) 5, 3) := by decide +kernel
theorem d24 : decode yB 24 = .ok (.iconst 0, 1) := by decide +kernel
theorem d25 : decode yB 25 = .ok (.ireturn, 1) := by decide +kernel
theorem d26 : decode yB 26 = .ok (.iinc 2 1, 3) := by decide +kernel
theorem d29 : decode yB 29 = .ok (.goto (-20), 3) := by decide +kernel
theorem d32 : decode yB 32 = .ok (.iconst 1, 1) := by decide +kernel
theorem d33 : decode yB 33 = .ok (.ireturn, 1) := by decide +kernel
theorem d34 : decode yB 34 = .ok (.iconst 0, 1) := by decide +kernel
theorem d35 : decode yB 35 = .ok (.ireturn, 1) := by decide +kernel
def site : List Cond := []
def tab : Cond := tabOf yN yB 3 (some .boolean) site
def P (a : Addr) (A : Cell) (b : Addr) (B : Cell) (args : Array Value) (s : State) : Prop := args = #[.ref a, .ref b] ∧ XT.Arr .byte a A s ∧ Typed .byte A ∧ XT.Arr .byte b B s ∧ Typed .byte B
/-- whether two byte[] are equal, place for place -/
theorem law (l : Launch) (a : Addr) (A : Cell) (b : Addr) (B : Cell) : Law l yN 2 2 0 0 yB 3 (some .boolean) site (P a A b B) (Says01 (EqC A B)) [] 0 0 := by
  refine Law.of_walk (plainFor_of_name (by decide +kernel)) (by decide +kernel) (by decide +kernel) (by decide) (fun _ _ h => by rw [h.1]; rfl) (fun _ U U' hal hh h => ⟨h.1, h.2.1.mv hal hh, h.2.2.1, h.2.2.2.1.mv hal hh, h.2.2.2.2⟩) (fun r U U' V V' h1 hal h2 h => Says01.mv r U U' V V' h1 hal h2 h) ?_
  intro p e s m args below meth c s₁ X0 hexec hbytes hml hret hlk hnm hown hh0 W hP
  obtain ⟨rfl, hA, tA, hB, tB⟩ := hP
  have a31 := hA.2.2.2
  have b31 := hB.2.2.2
  have hA0 := hA.mv X0.warmed.alike hh0
  have hB0 := hB.mv X0.warmed.alike hh0
  have c1 : Steps p.tables e below (s₁.setTop (entryFrame m #[.ref a, .ref b] 3)) (s₁.setTop (mkF m 0 #[.val (.ref a), .val (.ref b), .unset] [])) := entry rfl
  have c2 : Steps p.tables e below (s₁.setTop (entryFrame m #[.ref a, .ref b] 3)) (s₁.setTop (mkF m 4 #[.val (.ref a), .val (.ref b), .unset] [.int (Int32.ofNat B.slots.size), .int (Int32.ofNat A.slots.size)])) := c1.trans (by
    refine XS.aloadN X0.here hexec rfl (hb hbytes d0) rfl rfl ?_
    refine X0.alen hexec hA0 rfl rfl (hb hbytes d1) ?_
    refine XS.aloadN X0.here hexec rfl (hb hbytes d2) rfl rfl ?_
    refine X0.alen hexec hB0 rfl rfl (hb hbytes d3) ?_
    exact Steps.refl _)
  by_cases hs : A.slots.size = B.slots.size
  · have c3 : Steps p.tables e below (s₁.setTop (entryFrame m #[.ref a, .ref b] 3)) (s₁.setTop (mkF m 9 #[.val (.ref a), .val (.ref b), .val (.int 0)] [])) := c2.trans (by
      refine XS.icmpNo X0.here hexec rfl (hb hbytes d4) rfl (ii_ne_f (by rw [hs])) ?_
      refine iconstV X0.here hexec rfl 0 (hb hbytes d7) (by decide) ?_
      refine XS.istoreN X0.here hexec rfl (hb hbytes d8) rfl rfl ?_
      exact Steps.refl _)
    have loop : ∀ (r i : Nat), i + r = A.slots.size → (∀ j, j < i → yv A j = yv B j) → Steps p.tables e below (s₁.setTop (entryFrame m #[.ref a, .ref b] 3)) (s₁.setTop (mkF m 9 #[.val (.ref a), .val (.ref b), .val (.int (Int32.ofNat i))] [])) → ∃ (pc : Nat) (Ls : Array Slot) (v : Int32), (pc = 25 ∨ pc = 33) ∧ ((v = 1 ∧ EqC A B) ∨ (v = 0 ∧ ¬ EqC A B)) ∧ Steps p.tables e below (s₁.setTop (entryFrame m #[.ref a, .ref b] 3)) (s₁.setTop (mkF m pc Ls [.int v])) := by
      intro r
      induction r with
      | zero =>
        intro i hi he cl
        exact ⟨33, _, 1, Or.inr rfl, Or.inl ⟨rfl, hs, fun j hj => he j (by omega)⟩, cl.trans (by
          refine XS.iloadN X0.here hexec rfl (hb hbytes d9) rfl ?_
          refine XS.aloadN X0.here hexec rfl (hb hbytes d10) rfl rfl ?_
          refine X0.alen hexec hA0 rfl rfl (hb hbytes d11) ?_
          refine XS.icmpYes X0.here hexec rfl (pc0 := 12) rfl (hb hbytes d12) rfl (ii_ge_t (nlt32 (by omega) (by omega))) (by decide) rfl ?_
          refine iconstV X0.here hexec rfl 1 (hb hbytes d32) (by decide) ?_
          exact Steps.refl _)⟩
      | succ r ih =>
        intro i hi he cl
        have c4 : Steps p.tables e below (s₁.setTop (entryFrame m #[.ref a, .ref b] 3)) (s₁.setTop (mkF m 21 #[.val (.ref a), .val (.ref b), .val (.int (Int32.ofNat i))] [.int (yv B i), .int (yv A i)])) := cl.trans (by
          refine XS.iloadN X0.here hexec rfl (hb hbytes d9) rfl ?_
          refine XS.aloadN X0.here hexec rfl (hb hbytes d10) rfl rfl ?_
          refine X0.alen hexec hA0 rfl rfl (hb hbytes d11) ?_
          refine XS.icmpNo X0.here hexec rfl (hb hbytes d12) rfl (ii_ge_f (lt32 (by omega) (by omega))) ?_
          refine XS.aloadN X0.here hexec rfl (hb hbytes d15) rfl rfl ?_
          refine XS.iloadN X0.here hexec rfl (hb hbytes d16) rfl ?_
          refine X0.aget hexec hA0 rfl (yv_get hA tA (i := i) (by omega)) rfl rfl (hb hbytes d17) ?_
          refine XS.aloadN X0.here hexec rfl (hb hbytes d18) rfl rfl ?_
          refine XS.iloadN X0.here hexec rfl (hb hbytes d19) rfl ?_
          refine X0.aget hexec hB0 rfl (yv_get hB tB (i := i) (by omega)) rfl rfl (hb hbytes d20) ?_
          exact Steps.refl _)
        by_cases hv : yv A i = yv B i
        · have c5 : Steps p.tables e below (s₁.setTop (entryFrame m #[.ref a, .ref b] 3)) (s₁.setTop (mkF m 9 #[.val (.ref a), .val (.ref b), .val (.int (Int32.ofNat i + 1))] [])) := c4.trans (by
            refine XS.icmpYes X0.here hexec rfl (pc0 := 21) rfl (hb hbytes d21) rfl (ii_eq_t hv) (by decide) rfl ?_
            refine iincV X0.here hexec rfl 1 (hb hbytes d26) (by decide) rfl rfl ?_
            refine XS.goto X0.here hexec rfl (pc0 := 29) rfl (hb hbytes d29) (by decide) rfl ?_
            exact Steps.refl _)
          rw [succ32] at c5
          exact ih (i + 1) (by omega) (fun j hj => by
            by_cases e : j = i
            · rw [e]; exact hv
            · exact he j (by omega)) c5
        · exact ⟨25, _, 0, Or.inl rfl, Or.inr ⟨rfl, fun q => hv (q.2 i (by omega))⟩, c4.trans (by
            refine XS.icmpNo X0.here hexec rfl (hb hbytes d21) rfl (ii_eq_f hv) ?_
            refine iconstV X0.here hexec rfl 0 (hb hbytes d24) (by decide) ?_
            exact Steps.refl _)⟩
    obtain ⟨pc, Ls, v, hpc, hv, cz⟩ := loop A.slots.size 0 (by omega) (fun j hj => absurd hj (Nat.not_lt_zero j)) c3
    have nv : narrow .boolean (.int v) = .int v := by rcases hv with ⟨rfl, -⟩ | ⟨rfl, -⟩ <;> rfl
    rcases hpc with rfl | rfl
    · exact ⟨s₁, some (.int v), _, _, _, X0, rfl, rfl, rfl, (fun h => by cases h), ⟨v, rfl, hh0, hv⟩, fun fs hl => cz.trans (X0.ireturnOut hexec hret nv (Or.inr (Or.inl rfl)) (hb hbytes d25) hl)⟩
    · exact ⟨s₁, some (.int v), _, _, _, X0, rfl, rfl, rfl, (fun h => by cases h), ⟨v, rfl, hh0, hv⟩, fun fs hl => cz.trans (X0.ireturnOut hexec hret nv (Or.inr (Or.inl rfl)) (hb hbytes d33) hl)⟩
  · have c3 : Steps p.tables e below (s₁.setTop (entryFrame m #[.ref a, .ref b] 3)) (s₁.setTop (mkF m 35 #[.val (.ref a), .val (.ref b), .unset] [.int 0])) := c2.trans (by
      refine XS.icmpYes X0.here hexec rfl (pc0 := 4) rfl (hb hbytes d4) rfl (ii_ne_t (ne32 a31 b31 hs)) (by decide) rfl ?_
      refine iconstV X0.here hexec rfl 0 (hb hbytes d34) (by decide) ?_
      exact Steps.refl _)
    exact ⟨s₁, some (.int 0), _, _, _, X0, rfl, rfl, rfl, (fun h => by cases h), ⟨0, rfl, hh0, Or.inr ⟨rfl, fun q => hs q.1⟩⟩, fun fs hl => c3.trans (X0.ireturnOut hexec hret rfl (Or.inr (Or.inl rfl)) (hb hbytes d35) hl)⟩
end LEq
theorem Cod.ty {cd : Int32} {n : Nat} {f : Nat → Int32} {V : Cell} (h : Cod cd n f V) : Typed .byte V := fun i v hv => by
  have hi : i < V.slots.size := (Array.getElem?_eq_some_iff.mp hv).1
  rcases h with ⟨-, k1, k2⟩ | ⟨-, k1, k2, -⟩
  · rw [(k2 i (by omega)).1] at hv; cases hv; exact fits_lo8 _
  · rcases Nat.mod_two_eq_zero_or_one i with e | e
    · obtain ⟨j, rfl⟩ : ∃ j, i = 2 * j := ⟨i / 2, by omega⟩
      rw [(k2 j (by omega)).1] at hv; cases hv; exact fits_lo8 _
    · obtain ⟨j, rfl⟩ : ∃ j, i = 2 * j + 1 := ⟨i / 2, by omega⟩
      rw [(k2 j (by omega)).2] at hv; cases hv; exact fits_lo8 _
/-- the same text -/
def SameT (n : Nat) (f : Nat → Int32) (k : Nat) (g : Nat → Int32) : Prop := n = k ∧ ∀ j, j < n → f j = g j
theorem lo8_inj {x y : Int32} (h0 : ¬ x < 0) (h1 : ¬ 255 < x) (k0 : ¬ y < 0) (k1 : ¬ 255 < y) (h : lo8 x = lo8 y) : x = y := by
  rw [← lo8_mask h0 h1, ← lo8_mask k0 k1, h]
/-- arrays coded by one coder are equal just where the texts are -/
theorem Cod.eqv {cd : Int32} {n k : Nat} {f g : Nat → Int32} {V V' : Cell} (h : Cod cd n f V) (h' : Cod cd k g V') (hf : ∀ j, j < n → ¬ f j < 0 ∧ ¬ 65535 < f j) (hg : ∀ j, j < k → ¬ g j < 0 ∧ ¬ 65535 < g j) : EqC V V' ↔ SameT n f k g := by
  have yvv : ∀ {W : Cell} {i : Nat} {x : Int32}, W.slots[i]? = some (.int x) → yv W i = x := fun q => by unfold yv; rw [q]
  rcases h with ⟨rfl, k1, k2⟩ | ⟨rfl, k1, k2, -⟩
  · rcases h' with ⟨-, m1, m2⟩ | ⟨e, -⟩
    · constructor
      · rintro ⟨e1, e2⟩
        refine ⟨by omega, fun j hj => ?_⟩
        have q := e2 j (by omega)
        rw [yvv (k2 j hj).1, yvv (m2 j (by omega)).1] at q
        exact lo8_inj (hf j hj).1 (k2 j hj).2 (hg j (by omega)).1 (m2 j (by omega)).2 q
      · rintro ⟨rfl, e2⟩
        refine ⟨by omega, fun j hj => ?_⟩
        rw [yvv (k2 j (by omega)).1, yvv (m2 j (by omega)).1, e2 j (by omega)]
    · exact absurd e (by decide)
  · rcases h' with ⟨e, -⟩ | ⟨-, m1, m2, -⟩
    · exact absurd e (by decide)
    · constructor
      · rintro ⟨e1, e2⟩
        refine ⟨by omega, fun j hj => ?_⟩
        have q1 := e2 (2 * j) (by omega)
        have q2 := e2 (2 * j + 1) (by omega)
        rw [yvv (k2 j hj).1, yvv (m2 j (by omega)).1] at q1
        rw [yvv (k2 j hj).2, yvv (m2 j (by omega)).2] at q2
        rw [← pair_says (hf j hj).1 (hf j hj).2, ← pair_says (hg j (by omega)).1 (hg j (by omega)).2, q1, q2]
      · rintro ⟨rfl, e2⟩
        refine ⟨by omega, fun i hi => ?_⟩
        rcases Nat.mod_two_eq_zero_or_one i with e | e
        · obtain ⟨j, rfl⟩ : ∃ j, i = 2 * j := ⟨i / 2, by omega⟩
          rw [yvv (k2 j (by omega)).1, yvv (m2 j (by omega)).1, e2 j (by omega)]
        · obtain ⟨j, rfl⟩ : ∃ j, i = 2 * j + 1 := ⟨i / 2, by omega⟩
          rw [yvv (k2 j (by omega)).2, yvv (m2 j (by omega)).2, e2 j (by omega)]
/-- two codings differ: so do the texts -/
theorem Cod.dif {cd cd' : Int32} {n k : Nat} {f g : Nat → Int32} {V V' : Cell} (h : Cod cd n f V) (h' : Cod cd' k g V') (hne : ¬ cd = cd') : ¬ SameT n f k g := by
  rintro ⟨rfl, e⟩
  rcases h with ⟨rfl, -, k2⟩ | ⟨rfl, -, -, j, hj, hw⟩
  · rcases h' with ⟨rfl, -⟩ | ⟨-, -, -, j, hj, hw⟩
    · exact hne rfl
    · exact (k2 j hj).2 (by rw [e j hj]; exact hw)
  · rcases h' with ⟨-, -, m2⟩ | ⟨rfl, -⟩
    · exact (m2 j hj).2 (by rw [← e j hj]; exact hw)
    · exact hne rfl
/-- an object of exactly C is an instance of C -/
theorem cinst {p : Program} {l : Launch} {e : Env} {R : Room} {s : State} {m : MethodId} {args : Array Value} {below : List Frame} {meth : Method} {c : Code} {T : State} {locs : List Loc} {cells slots : Nat} (X : Stand p l e R s m args below meth c T locs cells slots) (hexec : p.tables.exec = Jvm.exec) {own C : String} {index : Nat} (hown : s.vm.findClass own = some m.cls) (hlink : (Cond.classLink own index C).before args s = true) {a : Addr} (hE : Exact C a T)
    {g : JFrame} (hg : g.method = m) {rest : List Value} (hstack : g.stack = .ref a :: rest) (hdg : decode c.code g.pc = .ok (.instanceof index, 3)) :
    ∃ T', Stand p l e R s m args below meth c T' locs cells slots ∧ T'.heap = T.heap ∧ ∀ target, Steps p.tables e below (T'.setTop { g with pc := g.pc + 3, stack := .int 1 :: rest }) target → Steps p.tables e below (T.setTop g) target := by
  obtain ⟨cB, h1, D, h2, h3, h4⟩ := hE
  have h1' : s.vm.findClass C = some cB := by rw [← X.warmed.alike.findClass]; exact h1
  obtain ⟨vm', X', st⟩ := X.instanceofYes hexec hown hlink h2 h4 h1' (by rw [h3]; exact Jvm.Free.SB.assignable_self _ _) hg hstack hdg
  exact ⟨_, X', rfl, st⟩
theorem cself {p : Program} {l : Launch} {e : Env} {R : Room} {s : State} {m : MethodId} {args : Array Value} {below : List Frame} {meth : Method} {c : Code} {T : State} {locs : List Loc} {cells slots : Nat} (X : Stand p l e R s m args below meth c T locs cells slots) (hexec : p.tables.exec = Jvm.exec) {own C : String} {index : Nat} (hown : s.vm.findClass own = some m.cls) (hlink : (Cond.classLink own index C).before args s = true) {a : Addr} (hE : Exact C a T)
    {g : JFrame} (hg : g.method = m) {rest : List Value} (hstack : g.stack = .ref a :: rest) (hdg : decode c.code g.pc = .ok (.checkcast index, 3)) :
    ∃ T', Stand p l e R s m args below meth c T' locs cells slots ∧ T'.heap = T.heap ∧ ∀ target, Steps p.tables e below (T'.setTop { g with pc := g.pc + 3, stack := .ref a :: rest }) target → Steps p.tables e below (T.setTop g) target := by
  obtain ⟨cB, h1, D, h2, h3, h4⟩ := hE
  have h1' : s.vm.findClass C = some cB := by rw [← X.warmed.alike.findClass]; exact h1
  obtain ⟨vm', X', st⟩ := X.checkcastYes hexec hown hlink h2 h4 h1' (by rw [h3]; exact Jvm.Free.SB.assignable_self _ _) hg hstack hdg
  exact ⟨_, X', rfl, fun t h => st t (by rw [← hstack] at h; exact h)⟩
namespace SEq
def yN : MethodName := ⟨"java/lang/String", "equals", "(Ljava/lang/Object;)Z"⟩
abbrev yB : ByteArray := jdk_42_method_66_code
theorem d0 : decode yB 0 = .ok (.aload_n 0, 1) := by decide +kernel
theorem d1 : decode yB 1 = .ok (.aload_n 1, 1) := by decide +kernel
theorem d2 : decode yB 2 = .ok (.if_acmp (.ne) 5, 3) := by decide +kernel
theorem d5 : decode yB 5 = .ok (.iconst 1, 1) := by decide +kernel
theorem d6 : decode yB 6 = .ok (.ireturn, 1) := by decide +kernel
theorem d7 : decode yB 7 = .ok (.aload_n 1, 1) := by decide +kernel
theorem d8 : decode yB 8 = .ok (.instanceof 10, 3) := by decide +kernel
theorem d11 : decode yB 11 = .ok (.ifCond (.eq) 43, 3) := by decide +kernel
theorem d14 : decode yB 14 = .ok (.aload_n 1, 1) := by decide +kernel
theorem d15 : decode yB 15 = .ok (.checkcast 10, 3) := by decide +kernel
theorem d18 : decode yB 18 = .ok (.astore_n 2, 1) := by decide +kernel
theorem d19 : decode yB 19 = .ok (.getstatic 38, 3) := by decide +kernel
theorem d22 : decode yB 22 = .ok (.ifCond (.eq) 14, 3) := by decide +kernel
theorem d25 : decode yB 25 = .ok (.aload_n 0, 1) := by decide +kernel
theorem d26 : decode yB 26 = .ok (.getfield 15, 3) := by decide +kernel
theorem d29 : decode yB 29 = .ok (.aload_n 2, 1) := by decide +kernel
theorem d30 : decode yB 30 = .ok (.getfield 15, 3) := by decide +kernel
theorem d33 : decode yB 33 = .ok (.if_icmp (.ne) 21, 3) := by decide +kernel
theorem d36 : decode yB 36 = .ok (.aload_n 0, 1) := by decide +kernel
theorem d37 : decode yB 37 = .ok (.getfield 9, 3) := by decide +kernel
theorem d40 : decode yB 40 = .ok (.aload_n 2, 1) := by decide +kernel
theorem d41 : decode yB 41 = .ok (.getfield 9, 3) := by decide +kernel
theorem d44 : decode yB 44 = .ok (.invokestatic 541, 3) := by decide +kernel
theorem d47 : decode yB 47 = .ok (.ifCond (.eq) 7, 3) := by decide +kernel
theorem d50 : decode yB 50 = .ok (.iconst 1, 1) := by decide +kernel
theorem d51 : decode yB 51 = .ok (.goto 4, 3) := by decide +kernel
theorem d54 : decode yB 54 = .ok (.iconst 0, 1) := by decide +kernel
theorem d55 : decode yB 55 = .ok (.ireturn, 1) := by decide +kernel
def site : List Cond := [.classLink "java/lang/String" 10 "java/lang/String", .fieldLink "java/lang/String" 38 "java/lang/String" "COMPACT_STRINGS" "Z", .fieldLink "java/lang/String" 15 "java/lang/String" "coder" "B", .fieldLink "java/lang/String" 9 "java/lang/String" "value" "[B", LEq.tab] ++ staticW "java/lang/String" 541 LEq.yN
def tab : Cond := tabOf yN yB 3 (some .boolean) site
def P (x t : Addr) (V : Cell) (cd : Int32) (n : Nat) (f : Nat → Int32) (y t' : Addr) (V' : Cell) (cd' : Int32) (k : Nat) (g : Nat → Int32) (z : Int32) (args : Array Value) (s : State) : Prop := args = #[.ref x, .ref y] ∧ Txt x t V cd n f s ∧ Txt y t' V' cd' k g s ∧ StaticIs s "java/lang/String" "COMPACT_STRINGS" "Z" (.int z) ∧ ¬ z = 0
/-- equals(Object) of two Strings: whether the texts are the same -/
theorem law (l : Launch) (x t : Addr) (V : Cell) (cd : Int32) (n : Nat) (f : Nat → Int32) (y t' : Addr) (V' : Cell) (cd' : Int32) (k : Nat) (g : Nat → Int32) (z : Int32) : Law l yN 2 1 1 14 yB 3 (some .boolean) site (P x t V cd n f y t' V' cd' k g z) (Says01 (SameT n f k g)) [] 0 0 := by
  refine Law.of_walk (plainFor_of_name (by decide +kernel)) (by decide +kernel) (by decide +kernel) (by decide) (fun _ _ h => by rw [h.1]; rfl) (fun _ U U' hal hh h => ⟨h.1, h.2.1.mv hal hh, h.2.2.1.mv hal hh, h.2.2.2.1.there hal hh, h.2.2.2.2⟩) (fun r U U' V V' h1 hal h2 h => Says01.mv r U U' V V' h1 hal h2 h) ?_
  intro p e s m args below meth c s₁ X0 hexec hbytes hml hret hlk hnm hown hh0 W hP
  obtain ⟨rfl, hx, hy, s1, hz⟩ := hP
  have c1 : Steps p.tables e below (s₁.setTop (entryFrame m #[.ref x, .ref y] 3)) (s₁.setTop (mkF m 2 #[.val (.ref x), .val (.ref y), .unset] [.ref y, .ref x])) := Steps.trans (entry rfl) (by
    show Steps p.tables e below (s₁.setTop (mkF m 0 #[.val (.ref x), .val (.ref y), .unset] [])) _
    refine XS.aloadN X0.here hexec rfl (hb hbytes d0) rfl rfl ?_
    refine XS.aloadN X0.here hexec rfl (hb hbytes d1) rfl rfl ?_
    exact Steps.refl _)
  by_cases hxy : x = y
  · have c2 : Steps p.tables e below (s₁.setTop (entryFrame m #[.ref x, .ref y] 3)) (s₁.setTop (mkF m 6 #[.val (.ref x), .val (.ref y), .unset] [.int 1])) := c1.trans (by
      refine acmpNo X0.here hexec rfl (hb hbytes d2) rfl rfl rfl (by simp [acmp, hxy]) ?_
      refine iconstV X0.here hexec rfl 1 (hb hbytes d5) (by decide) ?_
      exact Steps.refl _)
    subst hxy
    have ec : cd = cd' := by
      obtain ⟨D, fd, a1, a2, a3⟩ := hx.2.2.1
      obtain ⟨D', fd', b1, b2, b3⟩ := hy.2.2.1
      cases a1.symm.trans b1
      obtain ⟨q1, q2, q3, q4⟩ := a2.1
      obtain ⟨r1, r2, r3, r4⟩ := b2.1
      cases q4.symm.trans r4
      cases a3.symm.trans b3; rfl
    have et : t = t' := by
      obtain ⟨D, fd, a1, a2, a3⟩ := hx.2.1
      obtain ⟨D', fd', b1, b2, b3⟩ := hy.2.1
      cases a1.symm.trans b1
      obtain ⟨q1, q2, q3, q4⟩ := a2.1
      obtain ⟨r1, r2, r3, r4⟩ := b2.1
      cases q4.symm.trans r4
      cases a3.symm.trans b3; rfl
    subst ec et
    have ev : V = V' := by cases hx.2.2.2.1.1.symm.trans hy.2.2.2.1.1; rfl
    subst ev
    have hs : SameT n f k g := (Cod.eqv hx.2.2.2.2.1 hy.2.2.2.2.1 hx.2.2.2.2.2 hy.2.2.2.2.2).mp ⟨rfl, fun _ _ => rfl⟩
    exact ⟨s₁, some (.int 1), _, _, _, X0, rfl, rfl, rfl, (fun h => by cases h), ⟨1, rfl, hh0, Or.inl ⟨rfl, hs⟩⟩, fun fs hl => c2.trans (X0.ireturnOut hexec hret rfl (Or.inr (Or.inl rfl)) (hb hbytes d6) hl)⟩
  · have c2 : Steps p.tables e below (s₁.setTop (entryFrame m #[.ref x, .ref y] 3)) (s₁.setTop (mkF m 8 #[.val (.ref x), .val (.ref y), .unset] [.ref y])) := c1.trans (by
      refine acmpYes X0.here hexec rfl (pc0 := 2) rfl (hb hbytes d2) rfl rfl rfl (by simp [acmp, hxy]) (by decide) rfl ?_
      refine XS.aloadN X0.here hexec rfl (hb hbytes d7) rfl rfl ?_
      exact Steps.refl _)
    obtain ⟨T3, X3, q3, st3⟩ := cinst X0 hexec hown (wk W (.classLink "java/lang/String" 10 "java/lang/String")) (hy.mv X0.warmed.alike hh0).1 (g := (mkF m 8 #[.val (.ref x), .val (.ref y), .unset] [.ref y])) rfl (rest := []) rfl (hb hbytes d8)
    have hh3 := q3.trans hh0
    have c4 : Steps p.tables e below (s₁.setTop (entryFrame m #[.ref x, .ref y] 3)) (T3.setTop (mkF m 15 #[.val (.ref x), .val (.ref y), .unset] [.ref y])) := (c2.trans (st3 _ (Steps.refl _))).trans (by
      refine XS.ifNo X3.here hexec rfl (hb hbytes d11) rfl (i0_eq_f (by decide)) ?_
      refine XS.aloadN X3.here hexec rfl (hb hbytes d14) rfl rfl ?_
      exact Steps.refl _)
    obtain ⟨T5, X5, q5, st5⟩ := cself X3 hexec hown (wk W (.classLink "java/lang/String" 10 "java/lang/String")) (hy.mv X3.warmed.alike hh3).1 (g := (mkF m 15 #[.val (.ref x), .val (.ref y), .unset] [.ref y])) rfl (rest := []) rfl (hb hbytes d15)
    have hh5 := q5.trans hh3
    have c6 : Steps p.tables e below (s₁.setTop (entryFrame m #[.ref x, .ref y] 3)) (T5.setTop (mkF m 19 #[.val (.ref x), .val (.ref y), .val (.ref y)] [])) := (c4.trans (st5 _ (Steps.refl _))).trans (by
      refine XS.astoreN X5.here hexec rfl (hb hbytes d18) rfl rfl rfl ?_
      exact Steps.refl _)
    obtain ⟨T7, X7, q7, st7⟩ := X5.sget hexec hown (wk W (.fieldLink "java/lang/String" 38 "java/lang/String" "COMPACT_STRINGS" "Z")) s1 (fun _ _ h => by rw [hh5]; exact h) (g := (mkF m 19 #[.val (.ref x), .val (.ref y), .val (.ref y)] [])) rfl (hb hbytes d19)
    have hh7 := q7.trans hh5
    have c8 : Steps p.tables e below (s₁.setTop (entryFrame m #[.ref x, .ref y] 3)) (T7.setTop (mkF m 26 #[.val (.ref x), .val (.ref y), .val (.ref y)] [.ref x])) := (c6.trans (st7 _ (Steps.refl _))).trans (by
      refine XS.ifNo X7.here hexec rfl (hb hbytes d22) rfl (i0_eq_f hz) ?_
      refine XS.aloadN X7.here hexec rfl (hb hbytes d25) rfl rfl ?_
      exact Steps.refl _)
    obtain ⟨T9, X9, q9, st9⟩ := X7.hget hexec hown (wk W (.fieldLink "java/lang/String" 15 "java/lang/String" "coder" "B")) (hx.mv X7.warmed.alike hh7).2.2.1 (g := (mkF m 26 #[.val (.ref x), .val (.ref y), .val (.ref y)] [.ref x])) rfl (rest := []) rfl (hb hbytes d26)
    have hh9 := q9.trans hh7
    have c10 : Steps p.tables e below (s₁.setTop (entryFrame m #[.ref x, .ref y] 3)) (T9.setTop (mkF m 30 #[.val (.ref x), .val (.ref y), .val (.ref y)] [.ref y, .int cd])) := (c8.trans (st9 _ (Steps.refl _))).trans (by
      refine XS.aloadN X9.here hexec rfl (hb hbytes d29) rfl rfl ?_
      exact Steps.refl _)
    obtain ⟨T11, X11, q11, st11⟩ := X9.hget hexec hown (wk W (.fieldLink "java/lang/String" 15 "java/lang/String" "coder" "B")) (hy.mv X9.warmed.alike hh9).2.2.1 (g := (mkF m 30 #[.val (.ref x), .val (.ref y), .val (.ref y)] [.ref y, .int cd])) rfl (rest := [.int cd]) rfl (hb hbytes d30)
    have hh11 := q11.trans hh9
    have c12 : Steps p.tables e below (s₁.setTop (entryFrame m #[.ref x, .ref y] 3)) (T11.setTop (mkF m 33 #[.val (.ref x), .val (.ref y), .val (.ref y)] [.int cd', .int cd])) := c10.trans (st11 _ (Steps.refl _))
    by_cases hcd : cd = cd'
    · subst hcd
      have c13 : Steps p.tables e below (s₁.setTop (entryFrame m #[.ref x, .ref y] 3)) (T11.setTop (mkF m 37 #[.val (.ref x), .val (.ref y), .val (.ref y)] [.ref x])) := c12.trans (by
        refine XS.icmpNo X11.here hexec rfl (hb hbytes d33) rfl (ii_ne_f rfl) ?_
        refine XS.aloadN X11.here hexec rfl (hb hbytes d36) rfl rfl ?_
        exact Steps.refl _)
      obtain ⟨T14, X14, q14, st14⟩ := X11.hget hexec hown (wk W (.fieldLink "java/lang/String" 9 "java/lang/String" "value" "[B")) (hx.mv X11.warmed.alike hh11).2.1 (g := (mkF m 37 #[.val (.ref x), .val (.ref y), .val (.ref y)] [.ref x])) rfl (rest := []) rfl (hb hbytes d37)
      have hh14 := q14.trans hh11
      have c15 : Steps p.tables e below (s₁.setTop (entryFrame m #[.ref x, .ref y] 3)) (T14.setTop (mkF m 41 #[.val (.ref x), .val (.ref y), .val (.ref y)] [.ref y, .ref t])) := (c13.trans (st14 _ (Steps.refl _))).trans (by
        refine XS.aloadN X14.here hexec rfl (hb hbytes d40) rfl rfl ?_
        exact Steps.refl _)
      obtain ⟨T16, X16, q16, st16⟩ := X14.hget hexec hown (wk W (.fieldLink "java/lang/String" 9 "java/lang/String" "value" "[B")) (hy.mv X14.warmed.alike hh14).2.1 (g := (mkF m 41 #[.val (.ref x), .val (.ref y), .val (.ref y)] [.ref y, .ref t])) rfl (rest := [.ref t]) rfl (hb hbytes d41)
      have hh16 := q16.trans hh14
      have c17 : Steps p.tables e below (s₁.setTop (entryFrame m #[.ref x, .ref y] 3)) (T16.setTop (mkF m 44 #[.val (.ref x), .val (.ref y), .val (.ref y)] [.ref t', .ref t])) := c15.trans (st16 _ (Steps.refl _))
      obtain ⟨v18, T18, X18, E18, g18⟩ := X16.callS hexec (LEq.law l t V t' V') hown (wks W (staticW "java/lang/String" 541 LEq.yN)) (wk W LEq.tab) (W := 0) (Nat.le_of_ble_eq_true rfl) (Nat.le_of_ble_eq_true rfl) (Nat.le_refl _) (Nat.le_refl _) (g := (mkF m 44 #[.val (.ref x), .val (.ref y), .val (.ref y)] [.ref t', .ref t])) rfl (by rw [hml]; rfl) c17 (argsL := [.ref t, .ref t']) (rest := []) rfl rfl (by show 2 * 0 + 0 ≤ _; decide) (hb hbytes d44) (⟨rfl, hx.2.2.2.1.mv X16.warmed.alike hh16, hx.2.2.2.2.1.ty, hy.2.2.2.1.mv X16.warmed.alike hh16, hy.2.2.2.2.1.ty⟩)
      obtain ⟨v, rfl, q18, hv⟩ := E18
      have iff := Cod.eqv hx.2.2.2.2.1 hy.2.2.2.2.1 hx.2.2.2.2.2 hy.2.2.2.2.2
      rcases hv with ⟨rfl, he⟩ | ⟨rfl, he⟩
      · have c19 : Steps p.tables e below (s₁.setTop (entryFrame m #[.ref x, .ref y] 3)) (T18.setTop (mkF m 55 #[.val (.ref x), .val (.ref y), .val (.ref y)] [.int 1])) := Steps.trans g18 (by
          refine XS.ifNo X18.here hexec rfl (hb hbytes d47) rfl (i0_eq_f (by decide)) ?_
          refine iconstV X18.here hexec rfl 1 (hb hbytes d50) (by decide) ?_
          refine XS.goto X18.here hexec rfl (pc0 := 51) rfl (hb hbytes d51) (by decide) rfl ?_
          exact Steps.refl _)
        exact ⟨T18, some (.int 1), _, _, _, X18, rfl, rfl, rfl, (fun h => by cases h), ⟨1, rfl, q18.trans hh16, Or.inl ⟨rfl, iff.mp he⟩⟩, fun fs hl => c19.trans (X18.ireturnOut hexec hret rfl (Or.inr (Or.inl rfl)) (hb hbytes d55) hl)⟩
      · have c19 : Steps p.tables e below (s₁.setTop (entryFrame m #[.ref x, .ref y] 3)) (T18.setTop (mkF m 55 #[.val (.ref x), .val (.ref y), .val (.ref y)] [.int 0])) := Steps.trans g18 (by
          refine XS.ifYes X18.here hexec rfl (pc0 := 47) rfl (hb hbytes d47) rfl (i0_eq_t rfl) (by decide) rfl ?_
          refine iconstV X18.here hexec rfl 0 (hb hbytes d54) (by decide) ?_
          exact Steps.refl _)
        exact ⟨T18, some (.int 0), _, _, _, X18, rfl, rfl, rfl, (fun h => by cases h), ⟨0, rfl, q18.trans hh16, Or.inr ⟨rfl, fun q => he (iff.mpr q)⟩⟩, fun fs hl => c19.trans (X18.ireturnOut hexec hret rfl (Or.inr (Or.inl rfl)) (hb hbytes d55) hl)⟩
    · have c13 : Steps p.tables e below (s₁.setTop (entryFrame m #[.ref x, .ref y] 3)) (T11.setTop (mkF m 55 #[.val (.ref x), .val (.ref y), .val (.ref y)] [.int 0])) := c12.trans (by
        refine XS.icmpYes X11.here hexec rfl (pc0 := 33) rfl (hb hbytes d33) rfl (ii_ne_t hcd) (by decide) rfl ?_
        refine iconstV X11.here hexec rfl 0 (hb hbytes d54) (by decide) ?_
        exact Steps.refl _)
      exact ⟨T11, some (.int 0), _, _, _, X11, rfl, rfl, rfl, (fun h => by cases h), ⟨0, rfl, hh11, Or.inr ⟨rfl, Cod.dif hx.2.2.2.2.1 hy.2.2.2.2.1 hcd⟩⟩, fun fs hl => c13.trans (X11.ireturnOut hexec hret rfl (Or.inr (Or.inl rfl)) (hb hbytes d55) hl)⟩
theorem pays {l : Launch} {R : Room} {p : Program} {e : Env} {below : List Frame} {s : State} {sargs : Array Value} {len W : Nat} (x t : Addr) (V : Cell) (cd : Int32) (n : Nat) (f : Nat → Int32) (y t' : Addr) (V' : Cell) (cd' : Int32) (k : Nat) (g : Nat → Int32) (z : Int32) (htab : tab.before sargs s = true) (hfr : 2 ≤ R.frames) (hlo : W + 28 ≤ R.locals) :
    Back l R p e below s sargs yN len W (fun A₁ a₁ => A₁.cells + 0 ≤ R.cells ∧ A₁.slots + 0 ≤ R.slots ∧ P x t V cd n f y t' V' cd' k g z a₁ A₁.U) (fun A₁ _ v₁ B₁ => Says01 (SameT n f k g) v₁ A₁.U B₁.U ∧ B₁.locs = A₁.locs ++ [] ∧ B₁.cells = A₁.cells + 0 ∧ B₁.slots = A₁.slots + 0) :=
  (law l x t V cd n f y t' V' cd' k g z).pays htab hfr (by omega)
end SEq
end StrChars
namespace StrChars.Road
open Jvm Sem ClassFile Op Lib Jvm.Stand Jvm.Free Jvm.Free.XT
open Jvm.Lib.Cold (StaticIs)
/-- the words of String.equals(Object) -/
abbrev wordsEq : List Jvm.Cond := [.code SEq.yN SEq.yB 3 (some .boolean), .initialized ST, .classLink ST 10 ST, .fieldLink ST 38 ST "COMPACT_STRINGS" "Z", .fieldLink ST 15 ST "coder" "B", .fieldLink ST 9 ST "value" "[B", .methodLink ST 541 LEq.yN, .static LEq.yN, .code LEq.yN LEq.yB 3 (some .boolean), .initialized "java/lang/StringLatin1"]
theorem tabEq_of {a : Array Value} {s : State} (h : ∀ w ∈ wordsEq, w.before a s = true) : SEq.tab.before a s = true := by
  have hl : LEq.tab.before a s = true := unparts (wk h (.code LEq.yN LEq.yB 3 (some .boolean))) (wks h (.initialized LEq.yN.cls :: LEq.site))
  have q := consq hl h
  exact unparts (wk q (.code SEq.yN SEq.yB 3 (some .boolean))) (wks q (.initialized SEq.yN.cls :: SEq.site))
theorem movedEq {Z s : State} {a0 args : Array Value} (hZ : Z.Warmed39 s.vm) (hw : ∀ d ∈ wordsEq, d.before a0 Z = true) : ∀ d ∈ wordsEq, d.before args s = true := fun d hd => by
  have t : ∀ d ∈ wordsEq, (d.onTables && d.keepsFace) = true := by decide +kernel
  exact RoadKit.mv hZ (hw d hd) (t d hd)
/-- the road's facts of a String, as the laws ask it -/
theorem txt_of {Z U : State} {a0 : Array Value} {kI : Nat} (wi : (Jvm.Cond.instantiable ST kI).before a0 Z = true) (al : Z.vm.Alike U.vm) {x t : Addr} {kb : ClassId} {cs : List Int32} {cd N2 : Int32} {vs : List Value} (E : RoadKit.Exa Z U.heap x ST) (V : RoadKit.Fld Z U.heap x ST "value" "[B" (.ref t)) (C : RoadKit.Fld Z U.heap x ST "coder" "B" (.int cd)) (K : RoadKit.Arv Z U.heap t kb .byte N2 vs (.int 0)) (hc : CodA cs cd N2 vs) (hb : ∀ c ∈ cs, ¬ c < 0 ∧ ¬ (65535 : Int32) < c) (l2 : cs.length ≤ 4000) :
    ∃ A, Txt x t A cd cs.length (fun j => cs.getD j 0) U := by
  obtain ⟨A, K1, K2, K3, K4, K5, K6⟩ := K
  have hcod := hc.cod (by omega) K3 K5
  obtain ⟨D, fV, fC, hB, F1, F2, g1, g2, -, -⟩ := strObj wi al E V C
  exact ⟨A, ⟨_, hB.2.2.1, D, hB.1, rfl, by cases q : D.vm <;> first | rfl | exact absurd q (hB.2.1.2 _)⟩, Has.of hB F1 g1, Has.of hB F2 g2, ⟨K1.1, State.isArrayOf_alike al K1.2.1, K1.2.2, by rcases hcod with ⟨-, q, -⟩ | ⟨-, q, -⟩ <;> omega⟩, hcod, fun j hj => by
    have e : cs.getD j 0 = cs[j] := by simp [List.getD_eq_getElem?_getD, hj]
    show ¬ cs.getD j 0 < 0 ∧ ¬ 65535 < cs.getD j 0
    rw [e]; exact hb _ (List.getElem_mem _)⟩
theorem same_list (cs ds : List Int32) : SameT cs.length (fun j => cs.getD j 0) ds.length (fun j => ds.getD j 0) ↔ cs = ds := by
  constructor
  · rintro ⟨e, q⟩
    refine List.ext_getElem e fun j h1 h2 => ?_
    have := q j h1
    simpa [List.getD_eq_getElem?_getD, h1, h2] using this
  · rintro rfl
    exact ⟨rfl, fun _ _ => rfl⟩
/-- **equals(Object) OF TWO SUCH STRINGS**: 1 just where the chars are the same -/
theorem eqW {p : Program} {l : Launch} {e : Env} {R : Room} {s : State} {args : Array Value} {below : List Frame} {len W : Nat} {Z : State} {a0 : Array Value} {h : Heap} (hZ : Z.Warmed39 s.vm) (hw : ∀ d ∈ wordsEq, d.before a0 Z = true) {kI : Nat} (wi : (Jvm.Cond.instantiable ST kI).before a0 Z = true)
    {x t : Addr} {kb : ClassId} {cs : List Int32} {cd N2 : Int32} {vs : List Value} (E : RoadKit.Exa Z h x ST) (V : RoadKit.Fld Z h x ST "value" "[B" (.ref t)) (C : RoadKit.Fld Z h x ST "coder" "B" (.int cd)) (K : RoadKit.Arv Z h t kb .byte N2 vs (.int 0)) (hc : CodA cs cd N2 vs) (hb : ∀ c ∈ cs, ¬ c < 0 ∧ ¬ (65535 : Int32) < c) (l2 : cs.length ≤ 4000)
    {y t' : Addr} {kb' : ClassId} {ds : List Int32} {cd' N2' : Int32} {vs' : List Value} (E' : RoadKit.Exa Z h y ST) (V' : RoadKit.Fld Z h y ST "value" "[B" (.ref t')) (C' : RoadKit.Fld Z h y ST "coder" "B" (.int cd')) (K' : RoadKit.Arv Z h t' kb' .byte N2' vs' (.int 0)) (hc' : CodA ds cd' N2' vs') (hb' : ∀ c ∈ ds, ¬ c < 0 ∧ ¬ (65535 : Int32) < c) (l2' : ds.length ≤ 4000)
    {z : Int32} (S : RoadKit.Sta Z h ST "COMPACT_STRINGS" "Z" (.int z)) (hz : ¬ z = 0) (hfr : 2 ≤ R.frames) (hlo : W + 28 ≤ R.locals) :
    Back l R p e below s args (⟨"java/lang/String", "equals", "(Ljava/lang/Object;)Z"⟩ : MethodName) len W (fun P a => a = #[.ref x, .ref y] ∧ P.U.heap = h ∧ P.cells + 0 ≤ R.cells ∧ P.slots + 0 ≤ R.slots)
      (fun P _ v B => ∃ L, (((v = some (.int 1) ∧ cs = ds) ∨ (v = some (.int 0) ∧ ¬ cs = ds)) ∧ L = [] ∧ B.U.heap = h) ∧ B.locs = P.locs ++ L ∧ B.cells = P.cells + 0 ∧ B.slots = P.slots + 0) := by
  intro m meth c P g ig mk a X hg hsize hdg hW hn hp'
  obtain ⟨rfl, rfl, r1, r2⟩ := hp'
  have al : Z.vm.Alike P.U.vm := hZ.alike.trans X.warmed.alike
  obtain ⟨A, hx⟩ := txt_of wi al E V C K hc hb l2
  obtain ⟨A', hy⟩ := txt_of wi al E' V' C' K' hc' hb' l2'
  obtain ⟨v, B, X', ⟨⟨w, hv, hh, hq⟩, hl, hk, hs⟩, st⟩ := SEq.pays x t A cd cs.length (fun j => cs.getD j 0) y t' A' cd' ds.length (fun j => ds.getD j 0) z (tabEq_of (movedEq hZ hw)) hfr hlo m meth c P g ig mk _ X hg hsize hdg hW hn ⟨r1, r2, rfl, hx, hy, sta_is al S, hz⟩
  refine ⟨v, B, X', ⟨[], ⟨?_, rfl, hh⟩, hl, hk, hs⟩, st⟩
  rcases hq with ⟨rfl, q⟩ | ⟨rfl, q⟩
  · exact Or.inl ⟨hv, (same_list cs ds).mp q⟩
  · exact Or.inr ⟨hv, fun e => q ((same_list cs ds).mpr e)⟩
end StrChars.Road
namespace StrChars.Road
open Jvm Sem ClassFile Op Lib Jvm.Stand Jvm.Free Jvm.Free.XT
open Jvm.Lib.Cold (StaticIs)
/-- what backV says of its String, as the contracts of this text ask it: cs's low bytes, coder 0 -/
theorem codOf {cs : List Int32} {n : Nat} (hn : cs.length = n) (hb : ∀ c ∈ cs, ¬ 255 < c) : CodA cs 0 (Int32.ofNat n) ((cs.map lo8).map Value.int) := Or.inl ⟨rfl, by rw [hn], by simp [List.map_map, Function.comp_def], hb⟩
end StrChars.Road
end Jvm.Pilot.@@N@@
namespace Jvm.Pilot.@@N@@
open Jvm Jvm.ClassFile Sem Op Lib Jvm.Free Jvm.Stand Jvm.LawKit Jvm.RoadKit Bundle Jvm.Pilot.@@N@@.Jvm.D
theorem own_wS {Z : State} {aa : Array Value} (hw : ∀ d ∈ tables_1, d.before aa Z = true) : ∀ a ∈ Bundle.stringAtoms, a.before aa Z = true := fun d hd => hw d ((by decide +kernel : ∀ d ∈ Bundle.stringAtoms, d ∈ tables_1) d hd)
theorem own_wsV {Z : State} {aa : Array Value} (hw : ∀ d ∈ tables_1, d.before aa Z = true) : ∀ d ∈ StrChars.Road.words, d.before aa Z = true := fun d hd => hw d ((by decide +kernel : ∀ d ∈ StrChars.Road.words, d ∈ tables_1) d hd)
theorem own_wsE {Z : State} {aa : Array Value} (hw : ∀ d ∈ tables_1, d.before aa Z = true) : ∀ d ∈ StrChars.Road.wordsEq, d.before aa Z = true := fun d hd => hw d ((by decide +kernel : ∀ d ∈ StrChars.Road.wordsEq, d ∈ tables_1) d hd)
theorem own_EW {Z : State} {aa : Array Value} (hw : ∀ d ∈ tables_1, d.before aa Z = true) : EW Z aa consts_1 := (EW.cons (hw _ (List.mem_of_getElem? (i := 63) rfl)) (by decide) (EW.cons (hw _ (List.mem_of_getElem? (i := 71) rfl)) (by decide) (EW.cons (hw _ (List.mem_of_getElem? (i := 50) rfl)) (by decide) (EW.cons (hw _ (List.mem_of_getElem? (i := 82) rfl)) (by decide) (EW.cons (hw _ (List.mem_of_getElem? (i := 40) rfl)) (by decide) EW.nil)))))
def own_Str (Z : State) (h : Heap) (a : Addr) (cs : List Int32) : Prop := Exa Z h a "java/lang/String" ∧ Fld Z h a "java/lang/String" "coder" "B" (.int 0) ∧ (∃ (b : Addr) (k : ClassId), Fld Z h a "java/lang/String" "value" "[B" (.ref b) ∧ Arv Z h b k .byte (Int32.ofNat cs.length) ((cs.map StrChars.lo8).map Value.int) (.int 0)) ∧ (∀ c ∈ cs, ¬ c < 0 ∧ ¬ (255 : Int32) < c) ∧ cs.length ≤ 4000
theorem own_Str.ext {Z : State} {h h' : Heap} {a : Addr} {cs : List Int32} (F : own_Str Z h a cs) (E : Ext h h') : own_Str Z h' a cs := by
  obtain ⟨f1, f2, ⟨b, k, f3, f4⟩, f5, f6⟩ := F
  exact ⟨f1.ext E, f2.ext E, ⟨b, k, f3.ext E, f4.ext E⟩, f5, f6⟩
theorem own_Str.keep0 {Z : State} {h h' : Heap} {a : Addr} {cs : List Int32} (F : own_Str Z h a cs) (K : Keep h h' []) : own_Str Z h' a cs := by
  obtain ⟨f1, f2, ⟨b, k, f3, f4⟩, f5, f6⟩ := F
  exact ⟨f1.keep K, f2.keep K (fun q => nomatch q), ⟨b, k, f3.keep K (fun q => nomatch q), f4.keep K (fun q => nomatch q)⟩, f5, f6⟩
theorem own_Str.keepE {Z : State} {aa : Array Value} {h h' : Heap} {a x : Addr} {cs : List Int32} {C : String} {k : Nat} (F : own_Str Z h a cs) (K : Keep h h' [x]) (E : Exa Z h x C) (hC : C ≠ "java/lang/String") (wi : (Jvm.Cond.instantiable C k).before aa Z = true) : own_Str Z h' a cs := by
  obtain ⟨f1, f2, ⟨b, kb, f3, f4⟩, f5, f6⟩ := F
  have n1 : a ≠ x := Exa.ne f1 E (Ne.symm hC)
  have n2 : b ≠ x := Ne.symm (Exa.neArv E f4 wi)
  exact ⟨f1.keep K, f2.keep K (fun q => n1 (List.mem_singleton.mp q)), ⟨b, kb, f3.keep K (fun q => n1 (List.mem_singleton.mp q)), f4.keep K (fun q => n2 (List.mem_singleton.mp q))⟩, f5, f6⟩
theorem own_up {cs : List Int32} (h : ∀ c ∈ cs, ¬ c < 0 ∧ ¬ (255 : Int32) < c) : ∀ c ∈ cs, ¬ c < 0 ∧ ¬ (65535 : Int32) < c := fun c hc => ⟨(h c hc).1, fun q => (h c hc).2 (by rw [Int32.lt_iff_toInt_lt] at q ⊢; have e1 : (65535 : Int32).toInt = 65535 := rfl; have e2 : (255 : Int32).toInt = 255 := rfl; omega)⟩
def own_q (cs ds : List Int32) : Int32 := if cs = ds then 1 else 0
theorem own_qv {cs ds : List Int32} {v : Option Value} (h : (v = some (.int 1) ∧ cs = ds) ∨ (v = some (.int 0) ∧ ¬ cs = ds)) : v = some (.int (own_q cs ds)) := by
  rcases h with ⟨h1, h2⟩ | ⟨h1, h2⟩
  · rw [h1, own_q, if_pos h2]
  · rw [h1, own_q, if_neg h2]
theorem own_nar (cs ds : List Int32) : nar .boolean (own_q cs ds) = own_q cs ds := by
  unfold own_q
  split <;> rfl
def own_pol : List Int32 := [(80 : Int32), (111 : Int32), (108 : Int32), (105 : Int32), (99 : Int32), (121 : Int32)]
def own_set : List Int32 := [(80 : Int32), (111 : Int32), (108 : Int32), (105 : Int32), (99 : Int32), (121 : Int32), (83 : Int32), (101 : Int32), (116 : Int32)]
def own_kind (s : Int32) : List Int32 := if s = 0 then own_pol else own_set
def own_c (b : Int32) : Int32 := nar .char ((b &&& (255 : Int32)).toUInt32.toUInt16.toUInt32.toInt32)
def own_sh (b : Int32) : Int32 := ((b.toUInt32 >>> ((8 : Int32) &&& 31).toUInt32).toInt32)
def own_str (b n : Int32) : List Int32 := if n = 0 then [] else if n = 1 then [own_c b] else [own_c b, own_c (own_sh b)]
theorem own_cc (x : Int32) : own_c x = (x &&& (255 : Int32)) := by
  have t : ∀ k : Fin 256, nar .char ((Int32.ofNat k.val).toUInt32.toUInt16.toUInt32.toInt32) = Int32.ofNat k.val := by decide +kernel
  have h : (x &&& 255).toBitVec.toNat < 256 := by
    simp only [Int32.toBitVec_and, BitVec.toNat_and]
    exact Nat.lt_succ_of_le Nat.and_le_right
  have e : (x &&& 255) = Int32.ofNat (x &&& 255).toBitVec.toNat := by
    apply Int32.toBitVec_inj.mp
    show _ = BitVec.ofNat 32 _
    rw [BitVec.ofNat_toNat]; simp
  unfold own_c
  rw [e]
  exact t ⟨_, h⟩
theorem own_cb (x : Int32) : ¬ own_c x < 0 ∧ ¬ (255 : Int32) < own_c x := by
  rw [own_cc]
  have h := c_mask x 255 8 (by decide) (by decide)
  have e0 : (0 : Int32).toInt = 0 := by decide
  have e1 : (255 : Int32).toInt = 255 := by decide
  rw [Int32.lt_iff_toInt_lt, Int32.lt_iff_toInt_lt, e0, e1, h]
  have e2 : ((2 ^ 8 : Nat) : Int) = 256 := by decide
  rw [e2]
  omega
def own_same (b1 l1 b2 l2 : Int32) : Int32 := if l1 = l2 then (if l1 < 1 then (if l1 < 2 then 1 else if (own_sh b1 &&& (255 : Int32)) = (own_sh b2 &&& (255 : Int32)) then 1 else 0) else if (b1 &&& (255 : Int32)) = (b2 &&& (255 : Int32)) then (if l1 < 2 then 1 else if (own_sh b1 &&& (255 : Int32)) = (own_sh b2 &&& (255 : Int32)) then 1 else 0) else 0) else 0
def own_R (n : Int32) : Prop := n = 0 ∨ n = 1 ∨ n = 2
theorem own_strq (b1 l1 b2 l2 : Int32) (h1 : own_R l1) (h2 : own_R l2) : own_q (own_str b1 l1) (own_str b2 l2) = own_same b1 l1 b2 l2 := by
  unfold own_q own_str own_same
  simp only [own_cc]
  have k1 : ¬ ((1 : Int32) = 0) := by decide
  have k2 : ¬ ((2 : Int32) = 0) := by decide
  have k3 : ¬ ((2 : Int32) = 1) := by decide
  have k4 : ((0 : Int32) < 1) := by decide
  have k5 : ((0 : Int32) < 2) := by decide
  have k6 : ¬ ((1 : Int32) < 1) := by decide
  have k7 : ((1 : Int32) < 2) := by decide
  have k8 : ¬ ((2 : Int32) < 1) := by decide
  have k9 : ¬ ((2 : Int32) < 2) := by decide
  have j1 : ¬ ((0 : Int32) = 1) := by decide
  have j2 : ¬ ((0 : Int32) = 2) := by decide
  have j3 : ¬ ((1 : Int32) = 2) := by decide
  rcases h1 with rfl | rfl | rfl <;> rcases h2 with rfl | rfl | rfl <;> simp [k1, k2, k3, k4, k5, k6, k7, k8, k9, j1, j2, j3]
  by_cases p : (b1 &&& (255 : Int32)) = (b2 &&& (255 : Int32)) <;> by_cases q : (own_sh b1 &&& (255 : Int32)) = (own_sh b2 &&& (255 : Int32)) <;> simp [p, q]
theorem own_kindq (s1 s2 : Int32) (h1 : s1 = 0 ∨ s1 = 1) (h2 : s2 = 0 ∨ s2 = 1) : own_q (own_kind s1) (own_kind s2) = if s1 = s2 then 1 else 0 := by
  rcases h1 with rfl | rfl <;> rcases h2 with rfl | rfl <;> decide
theorem own_kindp (s : Int32) : own_kind s = own_pol ∨ own_kind s = own_set := by
  unfold own_kind
  split
  · exact Or.inl rfl
  · exact Or.inr rfl
def own_e (k k' i i' v v' : List Int32) : Int32 := if own_q k k' = 0 then 0 else if own_q i i' = 0 then 0 else if own_q v v' = 0 then 0 else 1
theorem own_qc (a b : List Int32) : own_q a b = own_q b a := by
  unfold own_q
  by_cases h : a = b
  · rw [if_pos h, if_pos h.symm]
  · rw [if_neg h, if_neg (fun q => h q.symm)]
theorem own_ec (k k' i i' v v' : List Int32) : own_e k' k i' i v' v = own_e k k' i i' v v' := by
  unfold own_e
  rw [own_qc k' k, own_qc i' i, own_qc v' v]
theorem own_es (k i v : List Int32) : own_e k k i i v v = 1 := by
  have q : ∀ l : List Int32, own_q l l = 1 := fun l => if_pos rfl
  unfold own_e
  rw [q, q, q]
  decide
def own_bit (a m : Int32) : Int32 := if (a &&& m) = 0 then 0 else 1
theorem own_bit01 (a m : Int32) : own_bit a m = 0 ∨ own_bit a m = 1 := by
  unfold own_bit
  split
  · exact Or.inl rfl
  · exact Or.inr rfl
theorem own_R3 (u : Int32) : own_R ((u &&& (3 : Int32)) % (3 : Int32)) := by
  have g := c_mask u 3 2 (by decide) (by decide)
  have e : ((2 ^ 2 : Nat) : Int) = 4 := by decide
  rw [e] at g
  have r := (c_irem (u &&& (3 : Int32)) 3 3 (by decide)).1 (by omega)
  have e0 : (0 : Int32).toInt = 0 := by decide
  have e1 : (1 : Int32).toInt = 1 := by decide
  have e2 : (2 : Int32).toInt = 2 := by decide
  unfold own_R
  simp only [← Int32.toInt_inj, e0, e1, e2, r]
  omega
theorem own_no {Z : State} {aa : Array Value} (hw : ∀ d ∈ tables_1, d.before aa Z = true) : ∃ c t, Z.vm.findClass "java/lang/String" = some c ∧ Z.vm.findClass "com/example/lichen/lichen/model/PolicyIdentifier" = some t ∧ Z.vm.assignable c t = false := by
  have hch : ∀ w ∈ Jvm.Cond.chainWords ["java/lang/String", "java/lang/Object"], w.before aa Z = true := by
    intro w h
    simp only [Jvm.Cond.chainWords, List.mem_cons, List.not_mem_nil, or_false] at h
    rcases h with rfl | rfl
    · exact (hw _ (List.mem_of_getElem? (i := 80) rfl))
    · exact (hw _ (List.mem_of_getElem? (i := 81) rfl))
  obtain ⟨t, kt, g1, g2, g3, g4, -⟩ := Jvm.Cond.instantiable_spec (show (Jvm.Cond.instantiable "com/example/lichen/lichen/model/PolicyIdentifier" 3).before aa Z = true from (hw _ (List.mem_of_getElem? (i := 1) rfl)))
  obtain ⟨c, k, h1, h2, h3, h4⟩ := Jvm.Cond.chain_head hch
  simp only [Bool.or_eq_false_iff] at g4
  exact ⟨c, t, h1, g1, Jvm.Vm.notAssignable_of_chain h1 g1 g2 g3 g4.1 hch (by decide)⟩
theorem d1_0 : decode method_2_code 0 = .ok (.iload_n 0, 1) := by decide +kernel
theorem d1_1 : decode method_2_code 1 = .ok (.ifCond .eq 63, 3) := by decide +kernel
theorem d1_4 : decode method_2_code 4 = .ok (.new 7, 3) := by decide +kernel
theorem d1_7 : decode method_2_code 7 = .ok (.dup, 1) := by decide +kernel
theorem d1_8 : decode method_2_code 8 = .ok (.bipush 9, 2) := by decide +kernel
theorem d1_10 : decode method_2_code 10 = .ok (.newarray .char, 2) := by decide +kernel
theorem d1_12 : decode method_2_code 12 = .ok (.dup, 1) := by decide +kernel
theorem d1_13 : decode method_2_code 13 = .ok (.iconst 0, 1) := by decide +kernel
theorem d1_14 : decode method_2_code 14 = .ok (.bipush 80, 2) := by decide +kernel
theorem d1_16 : decode method_2_code 16 = .ok (.castore, 1) := by decide +kernel
theorem d1_17 : decode method_2_code 17 = .ok (.dup, 1) := by decide +kernel
theorem d1_18 : decode method_2_code 18 = .ok (.iconst 1, 1) := by decide +kernel
theorem d1_19 : decode method_2_code 19 = .ok (.bipush 111, 2) := by decide +kernel
theorem d1_21 : decode method_2_code 21 = .ok (.castore, 1) := by decide +kernel
theorem d1_22 : decode method_2_code 22 = .ok (.dup, 1) := by decide +kernel
theorem d1_23 : decode method_2_code 23 = .ok (.iconst 2, 1) := by decide +kernel
theorem d1_24 : decode method_2_code 24 = .ok (.bipush 108, 2) := by decide +kernel
theorem d1_26 : decode method_2_code 26 = .ok (.castore, 1) := by decide +kernel
theorem d1_27 : decode method_2_code 27 = .ok (.dup, 1) := by decide +kernel
theorem d1_28 : decode method_2_code 28 = .ok (.iconst 3, 1) := by decide +kernel
theorem d1_29 : decode method_2_code 29 = .ok (.bipush 105, 2) := by decide +kernel
theorem d1_31 : decode method_2_code 31 = .ok (.castore, 1) := by decide +kernel
theorem d1_32 : decode method_2_code 32 = .ok (.dup, 1) := by decide +kernel
theorem d1_33 : decode method_2_code 33 = .ok (.iconst 4, 1) := by decide +kernel
theorem d1_34 : decode method_2_code 34 = .ok (.bipush 99, 2) := by decide +kernel
theorem d1_36 : decode method_2_code 36 = .ok (.castore, 1) := by decide +kernel
theorem d1_37 : decode method_2_code 37 = .ok (.dup, 1) := by decide +kernel
theorem d1_38 : decode method_2_code 38 = .ok (.iconst 5, 1) := by decide +kernel
theorem d1_39 : decode method_2_code 39 = .ok (.bipush 121, 2) := by decide +kernel
theorem d1_41 : decode method_2_code 41 = .ok (.castore, 1) := by decide +kernel
theorem d1_42 : decode method_2_code 42 = .ok (.dup, 1) := by decide +kernel
theorem d1_43 : decode method_2_code 43 = .ok (.bipush 6, 2) := by decide +kernel
theorem d1_45 : decode method_2_code 45 = .ok (.bipush 83, 2) := by decide +kernel
theorem d1_47 : decode method_2_code 47 = .ok (.castore, 1) := by decide +kernel
theorem d1_48 : decode method_2_code 48 = .ok (.dup, 1) := by decide +kernel
theorem d1_49 : decode method_2_code 49 = .ok (.bipush 7, 2) := by decide +kernel
theorem d1_51 : decode method_2_code 51 = .ok (.bipush 101, 2) := by decide +kernel
theorem d1_53 : decode method_2_code 53 = .ok (.castore, 1) := by decide +kernel
theorem d1_54 : decode method_2_code 54 = .ok (.dup, 1) := by decide +kernel
theorem d1_55 : decode method_2_code 55 = .ok (.bipush 8, 2) := by decide +kernel
theorem d1_57 : decode method_2_code 57 = .ok (.bipush 116, 2) := by decide +kernel
theorem d1_59 : decode method_2_code 59 = .ok (.castore, 1) := by decide +kernel
theorem d1_60 : decode method_2_code 60 = .ok (.invokespecial 9, 3) := by decide +kernel
theorem d1_63 : decode method_2_code 63 = .ok (.areturn, 1) := by decide +kernel
theorem d1_64 : decode method_2_code 64 = .ok (.new 7, 3) := by decide +kernel
theorem d1_67 : decode method_2_code 67 = .ok (.dup, 1) := by decide +kernel
theorem d1_68 : decode method_2_code 68 = .ok (.bipush 6, 2) := by decide +kernel
theorem d1_70 : decode method_2_code 70 = .ok (.newarray .char, 2) := by decide +kernel
theorem d1_72 : decode method_2_code 72 = .ok (.dup, 1) := by decide +kernel
theorem d1_73 : decode method_2_code 73 = .ok (.iconst 0, 1) := by decide +kernel
theorem d1_74 : decode method_2_code 74 = .ok (.bipush 80, 2) := by decide +kernel
theorem d1_76 : decode method_2_code 76 = .ok (.castore, 1) := by decide +kernel
theorem d1_77 : decode method_2_code 77 = .ok (.dup, 1) := by decide +kernel
theorem d1_78 : decode method_2_code 78 = .ok (.iconst 1, 1) := by decide +kernel
theorem d1_79 : decode method_2_code 79 = .ok (.bipush 111, 2) := by decide +kernel
theorem d1_81 : decode method_2_code 81 = .ok (.castore, 1) := by decide +kernel
theorem d1_82 : decode method_2_code 82 = .ok (.dup, 1) := by decide +kernel
theorem d1_83 : decode method_2_code 83 = .ok (.iconst 2, 1) := by decide +kernel
theorem d1_84 : decode method_2_code 84 = .ok (.bipush 108, 2) := by decide +kernel
theorem d1_86 : decode method_2_code 86 = .ok (.castore, 1) := by decide +kernel
theorem d1_87 : decode method_2_code 87 = .ok (.dup, 1) := by decide +kernel
theorem d1_88 : decode method_2_code 88 = .ok (.iconst 3, 1) := by decide +kernel
theorem d1_89 : decode method_2_code 89 = .ok (.bipush 105, 2) := by decide +kernel
theorem d1_91 : decode method_2_code 91 = .ok (.castore, 1) := by decide +kernel
theorem d1_92 : decode method_2_code 92 = .ok (.dup, 1) := by decide +kernel
theorem d1_93 : decode method_2_code 93 = .ok (.iconst 4, 1) := by decide +kernel
theorem d1_94 : decode method_2_code 94 = .ok (.bipush 99, 2) := by decide +kernel
theorem d1_96 : decode method_2_code 96 = .ok (.castore, 1) := by decide +kernel
theorem d1_97 : decode method_2_code 97 = .ok (.dup, 1) := by decide +kernel
theorem d1_98 : decode method_2_code 98 = .ok (.iconst 5, 1) := by decide +kernel
theorem d1_99 : decode method_2_code 99 = .ok (.bipush 121, 2) := by decide +kernel
theorem d1_101 : decode method_2_code 101 = .ok (.castore, 1) := by decide +kernel
theorem d1_102 : decode method_2_code 102 = .ok (.invokespecial 9, 3) := by decide +kernel
theorem d1_105 : decode method_2_code 105 = .ok (.areturn, 1) := by decide +kernel
theorem pn_com_example_lichen_lichen_model_PolicyIdentifierEqualsPinLaw : plainName "com/example/lichen/lichen/model/PolicyIdentifierEqualsPinLaw" = true := by first | (simp [plainName, overriddenIn]; done) | decide +kernel
theorem pd_P_CQV : parseMethodDescriptor "([C)V" = some ⟨[(.array .char)], none⟩ := by decide +kernel
theorem ef_rm1 (m : MethodId) (p0 : Int32) : entryFrame m #[(.int p0)] 1 = (mkF m 0 #[.val (.int p0)] []) := by first | (simp [entryFrame, mkF, argsToLocals, Value.category]; done) | rfl
def Q1 (Z : State) (p0 : Int32) (G1 : Int32) (h0 : Heap) (n0 : Nat) (v : Option Value) (h : Heap) (L : List Loc) : Prop := ∃ r : Addr, v = some (.ref r) ∧ Fr n0 L ∧ Keep h0 h [] ∧ own_Str Z h r (own_kind p0)
set_option maxRecDepth 65536 in
set_option maxHeartbeats 40000000 in
theorem rm1 (l : Launch) (Z : State) (aa : Array Value) (hw : ∀ d ∈ tables_1, d.before aa Z = true) (ws : List Jvm.Cond) (p0 : Int32) (G1 : Int32) (h0 : Heap) (n0 : Nat) (Z0 : n0 ≤ h0.size) (O2 : Sta Z Z.heap "java/lang/String" "COMPACT_STRINGS" "Z" (.int G1)) (P5 : ¬ (G1 = (0 : Int32))) (HO : Old Z n0 h0) :
    MetFree l (⟨"com/example/lichen/lichen/model/PolicyIdentifierEqualsPinLaw", "kind", "(Z)Ljava/lang/String;"⟩ : MethodName) (head1 (Jvm.Cond.code (⟨"com/example/lichen/lichen/model/PolicyIdentifierEqualsPinLaw", "kind", "(Z)Ljava/lang/String;"⟩ : MethodName) method_2_code 1 (some (.object "java/lang/String")) :: ws) ({ frames := 4, cells := 3, slots := 22, locals := 66 } : Room)) (fun a U => a = #[(.int p0)] ∧ Z.Warmed39 U.vm ∧ U.heap = h0) (fun _ _ _ _ _ => True) (fun _ U o U' => ∃ v L, o = .returned v ∧ Q1 Z p0 G1 h0 n0 v U'.heap L ∧ FrameEnd U o U' L ({ frames := 4, cells := 3, slots := 22, locals := 66 } : Room).cells ({ frames := 4, cells := 3, slots := 22, locals := 66 } : Room).slots) := by
  refine MetFree.of_bodySF (plainFor_of_name pn_com_example_lichen_lichen_model_PolicyIdentifierEqualsPinLaw) hisR ?_
  intro p e s m args below meth c s₁ Bd hml0 hP hK
  obtain ⟨rfl, hZ, hh⟩ := hP
  have hx := Bd.exec
  have hby := Bd.bytes
  have hml : c.maxLocals = 1 := hml0
  have hown : s.vm.findClass "com/example/lichen/lichen/model/PolicyIdentifierEqualsPinLaw" = some m.cls := findClass_of_methodNamed Bd.named
  have hnm := (name_of_methodNamed Bd.named Bd.method).1
  have X0 : Stand p l e ({ frames := 4, cells := 3, slots := 22, locals := 66 } : Room) s m #[(.int p0)] below meth c s₁ [] 0 0 := Stand.of_body Bd
  have e0 : s₁.heap = h0 := by rw [← hh, Bd.state]; rfl
  have N0 := Fr.nil n0
  obtain ⟨G0, hG0⟩ : ∃ G, G = s₁.setTop (entryFrame m #[(.int p0)] 1) := ⟨_, rfl⟩
  have K0 : ∀ t, Steps p.tables e below (s₁.setTop (mkF m 0 #[.val (.int p0)] [])) t → Steps p.tables e below G0 t := fun t k => by rw [hG0]; exact castTop (ef_rm1 m p0) k
  have K1 : ∀ t, Steps p.tables e below (s₁.setTop (mkF m 1 #[.val (.int p0)] [(.int p0)])) t → Steps p.tables e below G0 t := by
    intro t kt
    refine K0 t ?_
    refine XS.iloadN X0.here hx rfl (hb hby d1_0) rfl ?_
    show Steps p.tables e below (s₁.setTop (mkF m 1 #[.val (.int p0)] [(.int p0)])) _
    exact kt
  by_cases hc2 : p0 = (0 : Int32)
  ·
    have K3 : ∀ t, Steps p.tables e below (s₁.setTop (mkF m 64 #[.val (.int p0)] [])) t → Steps p.tables e below G0 t := by
      intro t kt
      refine K1 t ?_
      refine XS.ifYes X0.here hx rfl (pc0 := 1) (pc' := 64) rfl (hb hby d1_1) rfl ((if0 _ _).trans (teq hc2).1) (by decide) (by decide) ?_
      show Steps p.tables e below (s₁.setTop (mkF m 64 #[.val (.int p0)] [])) _
      exact kt
    obtain ⟨T4, h4, X4, e4, E4, A4, D4, -, st4⟩ := newO X0 hx hZ hown (hw _ (List.mem_of_getElem? (i := 7) rfl)) (hw _ (List.mem_of_getElem? (i := 8) rfl)) (hw _ (List.mem_of_getElem? (i := 9) rfl)) e0 (g := (mkF m 64 #[.val (.int p0)] [])) rfl (hb hby d1_64) (by decide) (by decide)
    obtain ⟨b4, g4⟩ : ∃ z, z = h0.size := ⟨_, rfl⟩
    rw [← g4] at A4 D4 st4
    have gn4 : n0 ≤ b4 := Nat.le_trans Z0 (Nat.le_of_eq g4.symm)
    have Z4 : n0 ≤ h4.size := Nat.le_trans Z0 E4.1
    have K4 : ∀ t, Steps p.tables e below (T4.setTop (mkF m 67 #[.val (.int p0)] [(.ref b4)])) t → Steps p.tables e below G0 t := fun t kt => K3 t (st4 _ kt)
    have F_coder_b4 := (D4 (Or.inr (hw _ (List.mem_of_getElem? (i := 34) rfl))) (ty := .byte) (by decide) : Fld Z h4 b4 "java/lang/String" "coder" "B" (.int (0 : Int32)))
    have F_value_b4 := (D4 (Or.inr (hw _ (List.mem_of_getElem? (i := 36) rfl))) (ty := (.array .byte)) (by decide) : Fld Z h4 b4 "java/lang/String" "value" "[B" .null)
    have K5 : ∀ t, Steps p.tables e below (T4.setTop (mkF m 70 #[.val (.int p0)] [(.int (6 : Int32)), (.ref b4), (.ref b4)])) t → Steps p.tables e below G0 t := by
      intro t kt
      refine K4 t ?_
      refine XS.dup X4.here hx rfl (hb hby d1_67) rfl rfl ?_
      show Steps p.tables e below (T4.setTop (mkF m 68 #[.val (.int p0)] [(.ref b4), (.ref b4)])) _
      refine XS.bipush X4.here hx rfl (hb hby d1_68) ?_
      show Steps p.tables e below (T4.setTop (mkF m 70 #[.val (.int p0)] [(.int (6 : Int32)), (.ref b4), (.ref b4)])) _
      exact kt
    obtain ⟨T6, h6, k6, X6, e6, E6, A6, st6⟩ := newP X4 hx hZ (hw _ (List.mem_of_getElem? (i := 10) rfl)) e4 (g := (mkF m 70 #[.val (.int p0)] [(.int (6 : Int32)), (.ref b4), (.ref b4)])) rfl (hb hby d1_70) rfl (by decide) (cap := 6) (by decide) (by decide) (by decide) (by decide)
    obtain ⟨b6, g6⟩ : ∃ z, z = h4.size := ⟨_, rfl⟩
    rw [← g6] at A6 st6
    have V6 := Arv.new A6 (by decide)
    have gn6 : n0 ≤ b6 := Nat.le_trans Z4 (Nat.le_of_eq g6.symm)
    have Z6 : n0 ≤ h6.size := Nat.le_trans Z4 E6.1
    have K6 : ∀ t, Steps p.tables e below (T6.setTop (mkF m 72 #[.val (.int p0)] [(.ref b6), (.ref b4), (.ref b4)])) t → Steps p.tables e below G0 t := fun t kt => K5 t (st6 _ kt)
    have ne_b4_b6 : b4 ≠ b6 := Nat.ne_of_lt (Nat.lt_of_lt_of_le (A4).lt (Nat.le_of_eq g6.symm))
    have VL6 : Arv Z h6 b6 k6 .char (6 : Int32) [(.int (0 : Int32)), (.int (0 : Int32)), (.int (0 : Int32)), (.int (0 : Int32)), (.int (0 : Int32)), (.int (0 : Int32))] (.int (0 : Int32)) := V6.pad (pad_rep [] (.int (0 : Int32)) 6)
    have K7 : ∀ t, Steps p.tables e below (T6.setTop (mkF m 76 #[.val (.int p0)] [(.int (80 : Int32)), (.int (0 : Int32)), (.ref b6), (.ref b6), (.ref b4), (.ref b4)])) t → Steps p.tables e below G0 t := by
      intro t kt
      refine K6 t ?_
      refine XS.dup X6.here hx rfl (hb hby d1_72) rfl rfl ?_
      show Steps p.tables e below (T6.setTop (mkF m 73 #[.val (.int p0)] [(.ref b6), (.ref b6), (.ref b4), (.ref b4)])) _
      refine XS.iconst X6.here hx rfl (hb hby d1_73) ?_
      show Steps p.tables e below (T6.setTop (mkF m 74 #[.val (.int p0)] [(.int (0 : Int32)), (.ref b6), (.ref b6), (.ref b4), (.ref b4)])) _
      refine XS.bipush X6.here hx rfl (hb hby d1_74) ?_
      show Steps p.tables e below (T6.setTop (mkF m 76 #[.val (.int p0)] [(.int (80 : Int32)), (.int (0 : Int32)), (.ref b6), (.ref b6), (.ref b4), (.ref b4)])) _
      exact kt
    obtain ⟨cl8, Ar8, qq8, S8, M8, H8, GG8⟩ := id VL6
    have hin8 : ¬ ((0 : Int32) < 0 ∨ cl8.slots.size ≤ ((0 : Int32)).toNatClampNeg) := inb_of S8 ⟨by decide, by decide⟩
    obtain ⟨T9, h9, X9, e9, W9, st9⟩ := stC X6 hx hZ e6 Ar8 (j := (0 : Int32)) hin8 (g := (mkF m 76 #[.val (.int p0)] [(.int (80 : Int32)), (.int (0 : Int32)), (.ref b6), (.ref b6), (.ref b4), (.ref b4)])) rfl rfl (hb hby d1_76)
    have K9 : ∀ t, Steps p.tables e below (T9.setTop (mkF m 77 #[.val (.int p0)] [(.ref b6), (.ref b4), (.ref b4)])) t → Steps p.tables e below G0 t := fun t kt => K7 t (st9 _ kt)
    have Z9 : n0 ≤ h9.size := Nat.le_trans Z6 (Keep.of_wr W9).1
    have VL9 : Arv Z h9 b6 k6 .char (6 : Int32) [(.int (nar .char (80 : Int32))), (.int (0 : Int32)), (.int (0 : Int32)), (.int (0 : Int32)), (.int (0 : Int32)), (.int (0 : Int32))] (.int (0 : Int32)) := Arv.set Ar8 qq8 S8 M8 H8 GG8 (fits_nar_char _) W9 0 rfl (Nat.le_of_ble_eq_true rfl)
    have N9 := Fr.snoc X9 N0 gn6
    have K10 : ∀ t, Steps p.tables e below (T9.setTop (mkF m 81 #[.val (.int p0)] [(.int (111 : Int32)), (.int (1 : Int32)), (.ref b6), (.ref b6), (.ref b4), (.ref b4)])) t → Steps p.tables e below G0 t := by
      intro t kt
      refine K9 t ?_
      refine XS.dup X9.here hx rfl (hb hby d1_77) rfl rfl ?_
      show Steps p.tables e below (T9.setTop (mkF m 78 #[.val (.int p0)] [(.ref b6), (.ref b6), (.ref b4), (.ref b4)])) _
      refine XS.iconst X9.here hx rfl (hb hby d1_78) ?_
      show Steps p.tables e below (T9.setTop (mkF m 79 #[.val (.int p0)] [(.int (1 : Int32)), (.ref b6), (.ref b6), (.ref b4), (.ref b4)])) _
      refine XS.bipush X9.here hx rfl (hb hby d1_79) ?_
      show Steps p.tables e below (T9.setTop (mkF m 81 #[.val (.int p0)] [(.int (111 : Int32)), (.int (1 : Int32)), (.ref b6), (.ref b6), (.ref b4), (.ref b4)])) _
      exact kt
    obtain ⟨cl11, Ar11, qq11, S11, M11, H11, GG11⟩ := id VL9
    have hin11 : ¬ ((1 : Int32) < 0 ∨ cl11.slots.size ≤ ((1 : Int32)).toNatClampNeg) := inb_of S11 ⟨by decide, by decide⟩
    obtain ⟨T12, h12, X12, e12, W12, st12⟩ := stC X9 hx hZ e9 Ar11 (j := (1 : Int32)) hin11 (g := (mkF m 81 #[.val (.int p0)] [(.int (111 : Int32)), (.int (1 : Int32)), (.ref b6), (.ref b6), (.ref b4), (.ref b4)])) rfl rfl (hb hby d1_81)
    have K12 : ∀ t, Steps p.tables e below (T12.setTop (mkF m 82 #[.val (.int p0)] [(.ref b6), (.ref b4), (.ref b4)])) t → Steps p.tables e below G0 t := fun t kt => K10 t (st12 _ kt)
    have Z12 : n0 ≤ h12.size := Nat.le_trans Z9 (Keep.of_wr W12).1
    have VL12 : Arv Z h12 b6 k6 .char (6 : Int32) [(.int (nar .char (80 : Int32))), (.int (nar .char (111 : Int32))), (.int (0 : Int32)), (.int (0 : Int32)), (.int (0 : Int32)), (.int (0 : Int32))] (.int (0 : Int32)) := Arv.set Ar11 qq11 S11 M11 H11 GG11 (fits_nar_char _) W12 1 rfl (Nat.le_of_ble_eq_true rfl)
    have N12 := Fr.snoc X12 N9 gn6
    have K13 : ∀ t, Steps p.tables e below (T12.setTop (mkF m 86 #[.val (.int p0)] [(.int (108 : Int32)), (.int (2 : Int32)), (.ref b6), (.ref b6), (.ref b4), (.ref b4)])) t → Steps p.tables e below G0 t := by
      intro t kt
      refine K12 t ?_
      refine XS.dup X12.here hx rfl (hb hby d1_82) rfl rfl ?_
      show Steps p.tables e below (T12.setTop (mkF m 83 #[.val (.int p0)] [(.ref b6), (.ref b6), (.ref b4), (.ref b4)])) _
      refine XS.iconst X12.here hx rfl (hb hby d1_83) ?_
      show Steps p.tables e below (T12.setTop (mkF m 84 #[.val (.int p0)] [(.int (2 : Int32)), (.ref b6), (.ref b6), (.ref b4), (.ref b4)])) _
      refine XS.bipush X12.here hx rfl (hb hby d1_84) ?_
      show Steps p.tables e below (T12.setTop (mkF m 86 #[.val (.int p0)] [(.int (108 : Int32)), (.int (2 : Int32)), (.ref b6), (.ref b6), (.ref b4), (.ref b4)])) _
      exact kt
    obtain ⟨cl14, Ar14, qq14, S14, M14, H14, GG14⟩ := id VL12
    have hin14 : ¬ ((2 : Int32) < 0 ∨ cl14.slots.size ≤ ((2 : Int32)).toNatClampNeg) := inb_of S14 ⟨by decide, by decide⟩
    obtain ⟨T15, h15, X15, e15, W15, st15⟩ := stC X12 hx hZ e12 Ar14 (j := (2 : Int32)) hin14 (g := (mkF m 86 #[.val (.int p0)] [(.int (108 : Int32)), (.int (2 : Int32)), (.ref b6), (.ref b6), (.ref b4), (.ref b4)])) rfl rfl (hb hby d1_86)
    have K15 : ∀ t, Steps p.tables e below (T15.setTop (mkF m 87 #[.val (.int p0)] [(.ref b6), (.ref b4), (.ref b4)])) t → Steps p.tables e below G0 t := fun t kt => K13 t (st15 _ kt)
    have Z15 : n0 ≤ h15.size := Nat.le_trans Z12 (Keep.of_wr W15).1
    have VL15 : Arv Z h15 b6 k6 .char (6 : Int32) [(.int (nar .char (80 : Int32))), (.int (nar .char (111 : Int32))), (.int (nar .char (108 : Int32))), (.int (0 : Int32)), (.int (0 : Int32)), (.int (0 : Int32))] (.int (0 : Int32)) := Arv.set Ar14 qq14 S14 M14 H14 GG14 (fits_nar_char _) W15 2 rfl (Nat.le_of_ble_eq_true rfl)
    have N15 := Fr.snoc X15 N12 gn6
    have K16 : ∀ t, Steps p.tables e below (T15.setTop (mkF m 91 #[.val (.int p0)] [(.int (105 : Int32)), (.int (3 : Int32)), (.ref b6), (.ref b6), (.ref b4), (.ref b4)])) t → Steps p.tables e below G0 t := by
      intro t kt
      refine K15 t ?_
      refine XS.dup X15.here hx rfl (hb hby d1_87) rfl rfl ?_
      show Steps p.tables e below (T15.setTop (mkF m 88 #[.val (.int p0)] [(.ref b6), (.ref b6), (.ref b4), (.ref b4)])) _
      refine XS.iconst X15.here hx rfl (hb hby d1_88) ?_
      show Steps p.tables e below (T15.setTop (mkF m 89 #[.val (.int p0)] [(.int (3 : Int32)), (.ref b6), (.ref b6), (.ref b4), (.ref b4)])) _
      refine XS.bipush X15.here hx rfl (hb hby d1_89) ?_
      show Steps p.tables e below (T15.setTop (mkF m 91 #[.val (.int p0)] [(.int (105 : Int32)), (.int (3 : Int32)), (.ref b6), (.ref b6), (.ref b4), (.ref b4)])) _
      exact kt
    obtain ⟨cl17, Ar17, qq17, S17, M17, H17, GG17⟩ := id VL15
    have hin17 : ¬ ((3 : Int32) < 0 ∨ cl17.slots.size ≤ ((3 : Int32)).toNatClampNeg) := inb_of S17 ⟨by decide, by decide⟩
    obtain ⟨T18, h18, X18, e18, W18, st18⟩ := stC X15 hx hZ e15 Ar17 (j := (3 : Int32)) hin17 (g := (mkF m 91 #[.val (.int p0)] [(.int (105 : Int32)), (.int (3 : Int32)), (.ref b6), (.ref b6), (.ref b4), (.ref b4)])) rfl rfl (hb hby d1_91)
    have K18 : ∀ t, Steps p.tables e below (T18.setTop (mkF m 92 #[.val (.int p0)] [(.ref b6), (.ref b4), (.ref b4)])) t → Steps p.tables e below G0 t := fun t kt => K16 t (st18 _ kt)
    have Z18 : n0 ≤ h18.size := Nat.le_trans Z15 (Keep.of_wr W18).1
    have VL18 : Arv Z h18 b6 k6 .char (6 : Int32) [(.int (nar .char (80 : Int32))), (.int (nar .char (111 : Int32))), (.int (nar .char (108 : Int32))), (.int (nar .char (105 : Int32))), (.int (0 : Int32)), (.int (0 : Int32))] (.int (0 : Int32)) := Arv.set Ar17 qq17 S17 M17 H17 GG17 (fits_nar_char _) W18 3 rfl (Nat.le_of_ble_eq_true rfl)
    have N18 := Fr.snoc X18 N15 gn6
    have K19 : ∀ t, Steps p.tables e below (T18.setTop (mkF m 96 #[.val (.int p0)] [(.int (99 : Int32)), (.int (4 : Int32)), (.ref b6), (.ref b6), (.ref b4), (.ref b4)])) t → Steps p.tables e below G0 t := by
      intro t kt
      refine K18 t ?_
      refine XS.dup X18.here hx rfl (hb hby d1_92) rfl rfl ?_
      show Steps p.tables e below (T18.setTop (mkF m 93 #[.val (.int p0)] [(.ref b6), (.ref b6), (.ref b4), (.ref b4)])) _
      refine XS.iconst X18.here hx rfl (hb hby d1_93) ?_
      show Steps p.tables e below (T18.setTop (mkF m 94 #[.val (.int p0)] [(.int (4 : Int32)), (.ref b6), (.ref b6), (.ref b4), (.ref b4)])) _
      refine XS.bipush X18.here hx rfl (hb hby d1_94) ?_
      show Steps p.tables e below (T18.setTop (mkF m 96 #[.val (.int p0)] [(.int (99 : Int32)), (.int (4 : Int32)), (.ref b6), (.ref b6), (.ref b4), (.ref b4)])) _
      exact kt
    obtain ⟨cl20, Ar20, qq20, S20, M20, H20, GG20⟩ := id VL18
    have hin20 : ¬ ((4 : Int32) < 0 ∨ cl20.slots.size ≤ ((4 : Int32)).toNatClampNeg) := inb_of S20 ⟨by decide, by decide⟩
    obtain ⟨T21, h21, X21, e21, W21, st21⟩ := stC X18 hx hZ e18 Ar20 (j := (4 : Int32)) hin20 (g := (mkF m 96 #[.val (.int p0)] [(.int (99 : Int32)), (.int (4 : Int32)), (.ref b6), (.ref b6), (.ref b4), (.ref b4)])) rfl rfl (hb hby d1_96)
    have K21 : ∀ t, Steps p.tables e below (T21.setTop (mkF m 97 #[.val (.int p0)] [(.ref b6), (.ref b4), (.ref b4)])) t → Steps p.tables e below G0 t := fun t kt => K19 t (st21 _ kt)
    have Z21 : n0 ≤ h21.size := Nat.le_trans Z18 (Keep.of_wr W21).1
    have VL21 : Arv Z h21 b6 k6 .char (6 : Int32) [(.int (nar .char (80 : Int32))), (.int (nar .char (111 : Int32))), (.int (nar .char (108 : Int32))), (.int (nar .char (105 : Int32))), (.int (nar .char (99 : Int32))), (.int (0 : Int32))] (.int (0 : Int32)) := Arv.set Ar20 qq20 S20 M20 H20 GG20 (fits_nar_char _) W21 4 rfl (Nat.le_of_ble_eq_true rfl)
    have N21 := Fr.snoc X21 N18 gn6
    have K22 : ∀ t, Steps p.tables e below (T21.setTop (mkF m 101 #[.val (.int p0)] [(.int (121 : Int32)), (.int (5 : Int32)), (.ref b6), (.ref b6), (.ref b4), (.ref b4)])) t → Steps p.tables e below G0 t := by
      intro t kt
      refine K21 t ?_
      refine XS.dup X21.here hx rfl (hb hby d1_97) rfl rfl ?_
      show Steps p.tables e below (T21.setTop (mkF m 98 #[.val (.int p0)] [(.ref b6), (.ref b6), (.ref b4), (.ref b4)])) _
      refine XS.iconst X21.here hx rfl (hb hby d1_98) ?_
      show Steps p.tables e below (T21.setTop (mkF m 99 #[.val (.int p0)] [(.int (5 : Int32)), (.ref b6), (.ref b6), (.ref b4), (.ref b4)])) _
      refine XS.bipush X21.here hx rfl (hb hby d1_99) ?_
      show Steps p.tables e below (T21.setTop (mkF m 101 #[.val (.int p0)] [(.int (121 : Int32)), (.int (5 : Int32)), (.ref b6), (.ref b6), (.ref b4), (.ref b4)])) _
      exact kt
    obtain ⟨cl23, Ar23, qq23, S23, M23, H23, GG23⟩ := id VL21
    have hin23 : ¬ ((5 : Int32) < 0 ∨ cl23.slots.size ≤ ((5 : Int32)).toNatClampNeg) := inb_of S23 ⟨by decide, by decide⟩
    obtain ⟨T24, h24, X24, e24, W24, st24⟩ := stC X21 hx hZ e21 Ar23 (j := (5 : Int32)) hin23 (g := (mkF m 101 #[.val (.int p0)] [(.int (121 : Int32)), (.int (5 : Int32)), (.ref b6), (.ref b6), (.ref b4), (.ref b4)])) rfl rfl (hb hby d1_101)
    have K24 : ∀ t, Steps p.tables e below (T24.setTop (mkF m 102 #[.val (.int p0)] [(.ref b6), (.ref b4), (.ref b4)])) t → Steps p.tables e below G0 t := fun t kt => K22 t (st24 _ kt)
    have Z24 : n0 ≤ h24.size := Nat.le_trans Z21 (Keep.of_wr W24).1
    have VL24 : Arv Z h24 b6 k6 .char (6 : Int32) [(.int (nar .char (80 : Int32))), (.int (nar .char (111 : Int32))), (.int (nar .char (108 : Int32))), (.int (nar .char (105 : Int32))), (.int (nar .char (99 : Int32))), (.int (nar .char (121 : Int32)))] (.int (0 : Int32)) := Arv.set Ar23 qq23 S23 M23 H23 GG23 (fits_nar_char _) W24 5 rfl (Nat.le_of_ble_eq_true rfl)
    have N24 := Fr.snoc X24 N21 gn6
    have f25 := (((((((A4.ext E6).wr W9).wr W12).wr W15).wr W18).wr W21).wr W24)
    have f26 := (((((((F_value_b4.ext E6).other W9 (Or.inl ne_b4_b6)).other W12 (Or.inl ne_b4_b6)).other W15 (Or.inl ne_b4_b6)).other W18 (Or.inl ne_b4_b6)).other W21 (Or.inl ne_b4_b6)).other W24 (Or.inl ne_b4_b6))
    have f27 := (((((((F_coder_b4.ext E6).other W9 (Or.inl ne_b4_b6)).other W12 (Or.inl ne_b4_b6)).other W15 (Or.inl ne_b4_b6)).other W18 (Or.inl ne_b4_b6)).other W21 (Or.inl ne_b4_b6)).other W24 (Or.inl ne_b4_b6))
    have f28 := ((((((((HO.ext E4).ext E6).wr W9 gn6).wr W12 gn6).wr W15 gn6).wr W18 gn6).wr W21 gn6).wr W24 gn6)
    obtain ⟨v29, _, ⟨T29, L29, k29, n29⟩, -, X29, ⟨Lc29, hQ29, l29, y29, z29⟩, st29⟩ := X24.specialBack hx (y := (⟨"java/lang/String", "<init>", "([C)V"⟩ : MethodName)) rfl hown (mvT hZ (hw _ (List.mem_of_getElem? (i := 11) rfl))) (mvT hZ (hw _ (List.mem_of_getElem? (i := 12) rfl))) (mvT hZ (hw _ (List.mem_of_getElem? (i := 13) rfl))) (by decide) (StrChars.Road.backV (W := 1) hZ (own_wsV hw) (kI := 4) (hw _ (List.mem_of_getElem? (i := 8) rfl)) (cs := own_pol) (bs := (own_pol : List Int32).map (fun c => c.toInt8.toInt32)) (n := 6) gn4 Z24 f25 f26 f27 VL24 (O2.ext f28.2) P5 rfl rfl (by decide) (by decide) (by decide) rfl (by decide) (by decide)) (g := (mkF m 102 #[.val (.int p0)] [(.ref b6), (.ref b4), (.ref b4)])) rfl (by rw [hml]; rfl) (Steps.refl _) (a := b4) (argsL := [(.ref b6)]) (rest := [(.ref b4)]) (lenOf pd_P_CQV rfl) rfl (by show 2 * 0 + _ ≤ _; exact Nat.le_of_eq rfl) (hb hby d1_102) (fun _ _ => ⟨rfl, e24, (by decide : 2 + 1 ≤ _), (by decide : 10 + 6 ≤ _)⟩)
    dsimp only [Pt.U, Pt.locs, Pt.cells, Pt.slots] at X29 l29 y29 z29 st29 hQ29
    subst l29 y29 z29
    obtain ⟨rfl, N29q, KV29, EX29, CO29, tt29, kb29, -, -, -, VV29, KK29⟩ := hQ29
    have N29 := Fr.app N24 N29q
    have K29 : ∀ t, Steps p.tables e below (T29.setTop (mkF m 105 #[.val (.int p0)] [(.ref b4)])) t → Steps p.tables e below G0 t := fun t kt => K24 t (st29.trans kt)
    have Z29 : n0 ≤ T29.heap.size := Nat.le_trans Z24 KV29.1
    have sn29 : own_Str Z T29.heap b4 own_pol := ⟨EX29, CO29, ⟨_, _, VV29, KK29⟩, (by decide), Nat.le_of_ble_eq_true rfl⟩
    have KQ30_0 := Keep.refl h0 []
    have sz30_4 := Nat.le_trans KQ30_0.1 (Nat.le_of_eq g4.symm)
    have KQ30_1 := KQ30_0.ext E4
    have sz30_6 := Nat.le_trans KQ30_1.1 (Nat.le_of_eq g6.symm)
    have KQ30_2 := KQ30_1.ext E6
    have KQ30_3 := KQ30_2.wr W9 (Or.inr sz30_6)
    have KQ30_4 := KQ30_3.wr W12 (Or.inr sz30_6)
    have KQ30_5 := KQ30_4.wr W15 (Or.inr sz30_6)
    have KQ30_6 := KQ30_5.wr W18 (Or.inr sz30_6)
    have KQ30_7 := KQ30_6.wr W21 (Or.inr sz30_6)
    have KQ30_8 := KQ30_7.wr W24 (Or.inr sz30_6)
    have KQ30_9 := KQ30_8.trans KV29 (fun x hx => by simp only [List.mem_cons, List.not_mem_nil, or_false] at hx; rcases hx with rfl <;> first | exact (Or.inr sz30_4))
    obtain ⟨fs, hr, hrun, hended, hW, hsame⟩ := X29.leave (v := some (.ref b4)) (fun h => by rw [Bd.returns] at h; cases h)
    refine ⟨_, _, ?_, hrun, hended, _, _, rfl, ?_, ⟨_, rfl⟩, hW, hsame.mono (by decide) (by decide)⟩
    · rw [← hG0]
      refine K29 _ ?_
      exact retOut X29 hx (t := (.object "java/lang/String")) Bd.returns rfl (Or.inr (Or.inr (Or.inr (Or.inr ⟨rfl, rfl, rfl⟩)))) (hb hby d1_105) hr
    · show Q1 Z p0 G1 h0 n0 _ T29.heap _
      exact ⟨_, rfl, N29, KQ30_9, by rw [own_kind, if_pos hc2]; exact sn29⟩
  ·
    have K31 : ∀ t, Steps p.tables e below (s₁.setTop (mkF m 4 #[.val (.int p0)] [])) t → Steps p.tables e below G0 t := by
      intro t kt
      refine K1 t ?_
      refine XS.ifNo X0.here hx rfl (hb hby d1_1) rfl ((if0 _ _).trans (feq hc2).1) ?_
      show Steps p.tables e below (s₁.setTop (mkF m 4 #[.val (.int p0)] [])) _
      exact kt
    obtain ⟨T32, h32, X32, e32, E32, A32, D32, -, st32⟩ := newO X0 hx hZ hown (hw _ (List.mem_of_getElem? (i := 7) rfl)) (hw _ (List.mem_of_getElem? (i := 8) rfl)) (hw _ (List.mem_of_getElem? (i := 9) rfl)) e0 (g := (mkF m 4 #[.val (.int p0)] [])) rfl (hb hby d1_4) (by decide) (by decide)
    obtain ⟨b32, g32⟩ : ∃ z, z = h0.size := ⟨_, rfl⟩
    rw [← g32] at A32 D32 st32
    have gn32 : n0 ≤ b32 := Nat.le_trans Z0 (Nat.le_of_eq g32.symm)
    have Z32 : n0 ≤ h32.size := Nat.le_trans Z0 E32.1
    have K32 : ∀ t, Steps p.tables e below (T32.setTop (mkF m 7 #[.val (.int p0)] [(.ref b32)])) t → Steps p.tables e below G0 t := fun t kt => K31 t (st32 _ kt)
    have F_coder_b32 := (D32 (Or.inr (hw _ (List.mem_of_getElem? (i := 34) rfl))) (ty := .byte) (by decide) : Fld Z h32 b32 "java/lang/String" "coder" "B" (.int (0 : Int32)))
    have F_value_b32 := (D32 (Or.inr (hw _ (List.mem_of_getElem? (i := 36) rfl))) (ty := (.array .byte)) (by decide) : Fld Z h32 b32 "java/lang/String" "value" "[B" .null)
    have K33 : ∀ t, Steps p.tables e below (T32.setTop (mkF m 10 #[.val (.int p0)] [(.int (9 : Int32)), (.ref b32), (.ref b32)])) t → Steps p.tables e below G0 t := by
      intro t kt
      refine K32 t ?_
      refine XS.dup X32.here hx rfl (hb hby d1_7) rfl rfl ?_
      show Steps p.tables e below (T32.setTop (mkF m 8 #[.val (.int p0)] [(.ref b32), (.ref b32)])) _
      refine XS.bipush X32.here hx rfl (hb hby d1_8) ?_
      show Steps p.tables e below (T32.setTop (mkF m 10 #[.val (.int p0)] [(.int (9 : Int32)), (.ref b32), (.ref b32)])) _
      exact kt
    obtain ⟨T34, h34, k34, X34, e34, E34, A34, st34⟩ := newP X32 hx hZ (hw _ (List.mem_of_getElem? (i := 10) rfl)) e32 (g := (mkF m 10 #[.val (.int p0)] [(.int (9 : Int32)), (.ref b32), (.ref b32)])) rfl (hb hby d1_10) rfl (by decide) (cap := 9) (by decide) (by decide) (by decide) (by decide)
    obtain ⟨b34, g34⟩ : ∃ z, z = h32.size := ⟨_, rfl⟩
    rw [← g34] at A34 st34
    have V34 := Arv.new A34 (by decide)
    have gn34 : n0 ≤ b34 := Nat.le_trans Z32 (Nat.le_of_eq g34.symm)
    have Z34 : n0 ≤ h34.size := Nat.le_trans Z32 E34.1
    have K34 : ∀ t, Steps p.tables e below (T34.setTop (mkF m 12 #[.val (.int p0)] [(.ref b34), (.ref b32), (.ref b32)])) t → Steps p.tables e below G0 t := fun t kt => K33 t (st34 _ kt)
    have ne_b32_b34 : b32 ≠ b34 := Nat.ne_of_lt (Nat.lt_of_lt_of_le (A32).lt (Nat.le_of_eq g34.symm))
    have VL34 : Arv Z h34 b34 k34 .char (9 : Int32) [(.int (0 : Int32)), (.int (0 : Int32)), (.int (0 : Int32)), (.int (0 : Int32)), (.int (0 : Int32)), (.int (0 : Int32)), (.int (0 : Int32)), (.int (0 : Int32)), (.int (0 : Int32))] (.int (0 : Int32)) := V34.pad (pad_rep [] (.int (0 : Int32)) 9)
    have K35 : ∀ t, Steps p.tables e below (T34.setTop (mkF m 16 #[.val (.int p0)] [(.int (80 : Int32)), (.int (0 : Int32)), (.ref b34), (.ref b34), (.ref b32), (.ref b32)])) t → Steps p.tables e below G0 t := by
      intro t kt
      refine K34 t ?_
      refine XS.dup X34.here hx rfl (hb hby d1_12) rfl rfl ?_
      show Steps p.tables e below (T34.setTop (mkF m 13 #[.val (.int p0)] [(.ref b34), (.ref b34), (.ref b32), (.ref b32)])) _
      refine XS.iconst X34.here hx rfl (hb hby d1_13) ?_
      show Steps p.tables e below (T34.setTop (mkF m 14 #[.val (.int p0)] [(.int (0 : Int32)), (.ref b34), (.ref b34), (.ref b32), (.ref b32)])) _
      refine XS.bipush X34.here hx rfl (hb hby d1_14) ?_
      show Steps p.tables e below (T34.setTop (mkF m 16 #[.val (.int p0)] [(.int (80 : Int32)), (.int (0 : Int32)), (.ref b34), (.ref b34), (.ref b32), (.ref b32)])) _
      exact kt
    obtain ⟨cl36, Ar36, qq36, S36, M36, H36, GG36⟩ := id VL34
    have hin36 : ¬ ((0 : Int32) < 0 ∨ cl36.slots.size ≤ ((0 : Int32)).toNatClampNeg) := inb_of S36 ⟨by decide, by decide⟩
    obtain ⟨T37, h37, X37, e37, W37, st37⟩ := stC X34 hx hZ e34 Ar36 (j := (0 : Int32)) hin36 (g := (mkF m 16 #[.val (.int p0)] [(.int (80 : Int32)), (.int (0 : Int32)), (.ref b34), (.ref b34), (.ref b32), (.ref b32)])) rfl rfl (hb hby d1_16)
    have K37 : ∀ t, Steps p.tables e below (T37.setTop (mkF m 17 #[.val (.int p0)] [(.ref b34), (.ref b32), (.ref b32)])) t → Steps p.tables e below G0 t := fun t kt => K35 t (st37 _ kt)
    have Z37 : n0 ≤ h37.size := Nat.le_trans Z34 (Keep.of_wr W37).1
    have VL37 : Arv Z h37 b34 k34 .char (9 : Int32) [(.int (nar .char (80 : Int32))), (.int (0 : Int32)), (.int (0 : Int32)), (.int (0 : Int32)), (.int (0 : Int32)), (.int (0 : Int32)), (.int (0 : Int32)), (.int (0 : Int32)), (.int (0 : Int32))] (.int (0 : Int32)) := Arv.set Ar36 qq36 S36 M36 H36 GG36 (fits_nar_char _) W37 0 rfl (Nat.le_of_ble_eq_true rfl)
    have N37 := Fr.snoc X37 N0 gn34
    have K38 : ∀ t, Steps p.tables e below (T37.setTop (mkF m 21 #[.val (.int p0)] [(.int (111 : Int32)), (.int (1 : Int32)), (.ref b34), (.ref b34), (.ref b32), (.ref b32)])) t → Steps p.tables e below G0 t := by
      intro t kt
      refine K37 t ?_
      refine XS.dup X37.here hx rfl (hb hby d1_17) rfl rfl ?_
      show Steps p.tables e below (T37.setTop (mkF m 18 #[.val (.int p0)] [(.ref b34), (.ref b34), (.ref b32), (.ref b32)])) _
      refine XS.iconst X37.here hx rfl (hb hby d1_18) ?_
      show Steps p.tables e below (T37.setTop (mkF m 19 #[.val (.int p0)] [(.int (1 : Int32)), (.ref b34), (.ref b34), (.ref b32), (.ref b32)])) _
      refine XS.bipush X37.here hx rfl (hb hby d1_19) ?_
      show Steps p.tables e below (T37.setTop (mkF m 21 #[.val (.int p0)] [(.int (111 : Int32)), (.int (1 : Int32)), (.ref b34), (.ref b34), (.ref b32), (.ref b32)])) _
      exact kt
    obtain ⟨cl39, Ar39, qq39, S39, M39, H39, GG39⟩ := id VL37
    have hin39 : ¬ ((1 : Int32) < 0 ∨ cl39.slots.size ≤ ((1 : Int32)).toNatClampNeg) := inb_of S39 ⟨by decide, by decide⟩
    obtain ⟨T40, h40, X40, e40, W40, st40⟩ := stC X37 hx hZ e37 Ar39 (j := (1 : Int32)) hin39 (g := (mkF m 21 #[.val (.int p0)] [(.int (111 : Int32)), (.int (1 : Int32)), (.ref b34), (.ref b34), (.ref b32), (.ref b32)])) rfl rfl (hb hby d1_21)
    have K40 : ∀ t, Steps p.tables e below (T40.setTop (mkF m 22 #[.val (.int p0)] [(.ref b34), (.ref b32), (.ref b32)])) t → Steps p.tables e below G0 t := fun t kt => K38 t (st40 _ kt)
    have Z40 : n0 ≤ h40.size := Nat.le_trans Z37 (Keep.of_wr W40).1
    have VL40 : Arv Z h40 b34 k34 .char (9 : Int32) [(.int (nar .char (80 : Int32))), (.int (nar .char (111 : Int32))), (.int (0 : Int32)), (.int (0 : Int32)), (.int (0 : Int32)), (.int (0 : Int32)), (.int (0 : Int32)), (.int (0 : Int32)), (.int (0 : Int32))] (.int (0 : Int32)) := Arv.set Ar39 qq39 S39 M39 H39 GG39 (fits_nar_char _) W40 1 rfl (Nat.le_of_ble_eq_true rfl)
    have N40 := Fr.snoc X40 N37 gn34
    have K41 : ∀ t, Steps p.tables e below (T40.setTop (mkF m 26 #[.val (.int p0)] [(.int (108 : Int32)), (.int (2 : Int32)), (.ref b34), (.ref b34), (.ref b32), (.ref b32)])) t → Steps p.tables e below G0 t := by
      intro t kt
      refine K40 t ?_
      refine XS.dup X40.here hx rfl (hb hby d1_22) rfl rfl ?_
      show Steps p.tables e below (T40.setTop (mkF m 23 #[.val (.int p0)] [(.ref b34), (.ref b34), (.ref b32), (.ref b32)])) _
      refine XS.iconst X40.here hx rfl (hb hby d1_23) ?_
      show Steps p.tables e below (T40.setTop (mkF m 24 #[.val (.int p0)] [(.int (2 : Int32)), (.ref b34), (.ref b34), (.ref b32), (.ref b32)])) _
      refine XS.bipush X40.here hx rfl (hb hby d1_24) ?_
      show Steps p.tables e below (T40.setTop (mkF m 26 #[.val (.int p0)] [(.int (108 : Int32)), (.int (2 : Int32)), (.ref b34), (.ref b34), (.ref b32), (.ref b32)])) _
      exact kt
    obtain ⟨cl42, Ar42, qq42, S42, M42, H42, GG42⟩ := id VL40
    have hin42 : ¬ ((2 : Int32) < 0 ∨ cl42.slots.size ≤ ((2 : Int32)).toNatClampNeg) := inb_of S42 ⟨by decide, by decide⟩
    obtain ⟨T43, h43, X43, e43, W43, st43⟩ := stC X40 hx hZ e40 Ar42 (j := (2 : Int32)) hin42 (g := (mkF m 26 #[.val (.int p0)] [(.int (108 : Int32)), (.int (2 : Int32)), (.ref b34), (.ref b34), (.ref b32), (.ref b32)])) rfl rfl (hb hby d1_26)
    have K43 : ∀ t, Steps p.tables e below (T43.setTop (mkF m 27 #[.val (.int p0)] [(.ref b34), (.ref b32), (.ref b32)])) t → Steps p.tables e below G0 t := fun t kt => K41 t (st43 _ kt)
    have Z43 : n0 ≤ h43.size := Nat.le_trans Z40 (Keep.of_wr W43).1
    have VL43 : Arv Z h43 b34 k34 .char (9 : Int32) [(.int (nar .char (80 : Int32))), (.int (nar .char (111 : Int32))), (.int (nar .char (108 : Int32))), (.int (0 : Int32)), (.int (0 : Int32)), (.int (0 : Int32)), (.int (0 : Int32)), (.int (0 : Int32)), (.int (0 : Int32))] (.int (0 : Int32)) := Arv.set Ar42 qq42 S42 M42 H42 GG42 (fits_nar_char _) W43 2 rfl (Nat.le_of_ble_eq_true rfl)
    have N43 := Fr.snoc X43 N40 gn34
    have K44 : ∀ t, Steps p.tables e below (T43.setTop (mkF m 31 #[.val (.int p0)] [(.int (105 : Int32)), (.int (3 : Int32)), (.ref b34), (.ref b34), (.ref b32), (.ref b32)])) t → Steps p.tables e below G0 t := by
      intro t kt
      refine K43 t ?_
      refine XS.dup X43.here hx rfl (hb hby d1_27) rfl rfl ?_
      show Steps p.tables e below (T43.setTop (mkF m 28 #[.val (.int p0)] [(.ref b34), (.ref b34), (.ref b32), (.ref b32)])) _
      refine XS.iconst X43.here hx rfl (hb hby d1_28) ?_
      show Steps p.tables e below (T43.setTop (mkF m 29 #[.val (.int p0)] [(.int (3 : Int32)), (.ref b34), (.ref b34), (.ref b32), (.ref b32)])) _
      refine XS.bipush X43.here hx rfl (hb hby d1_29) ?_
      show Steps p.tables e below (T43.setTop (mkF m 31 #[.val (.int p0)] [(.int (105 : Int32)), (.int (3 : Int32)), (.ref b34), (.ref b34), (.ref b32), (.ref b32)])) _
      exact kt
    obtain ⟨cl45, Ar45, qq45, S45, M45, H45, GG45⟩ := id VL43
    have hin45 : ¬ ((3 : Int32) < 0 ∨ cl45.slots.size ≤ ((3 : Int32)).toNatClampNeg) := inb_of S45 ⟨by decide, by decide⟩
    obtain ⟨T46, h46, X46, e46, W46, st46⟩ := stC X43 hx hZ e43 Ar45 (j := (3 : Int32)) hin45 (g := (mkF m 31 #[.val (.int p0)] [(.int (105 : Int32)), (.int (3 : Int32)), (.ref b34), (.ref b34), (.ref b32), (.ref b32)])) rfl rfl (hb hby d1_31)
    have K46 : ∀ t, Steps p.tables e below (T46.setTop (mkF m 32 #[.val (.int p0)] [(.ref b34), (.ref b32), (.ref b32)])) t → Steps p.tables e below G0 t := fun t kt => K44 t (st46 _ kt)
    have Z46 : n0 ≤ h46.size := Nat.le_trans Z43 (Keep.of_wr W46).1
    have VL46 : Arv Z h46 b34 k34 .char (9 : Int32) [(.int (nar .char (80 : Int32))), (.int (nar .char (111 : Int32))), (.int (nar .char (108 : Int32))), (.int (nar .char (105 : Int32))), (.int (0 : Int32)), (.int (0 : Int32)), (.int (0 : Int32)), (.int (0 : Int32)), (.int (0 : Int32))] (.int (0 : Int32)) := Arv.set Ar45 qq45 S45 M45 H45 GG45 (fits_nar_char _) W46 3 rfl (Nat.le_of_ble_eq_true rfl)
    have N46 := Fr.snoc X46 N43 gn34
    have K47 : ∀ t, Steps p.tables e below (T46.setTop (mkF m 36 #[.val (.int p0)] [(.int (99 : Int32)), (.int (4 : Int32)), (.ref b34), (.ref b34), (.ref b32), (.ref b32)])) t → Steps p.tables e below G0 t := by
      intro t kt
      refine K46 t ?_
      refine XS.dup X46.here hx rfl (hb hby d1_32) rfl rfl ?_
      show Steps p.tables e below (T46.setTop (mkF m 33 #[.val (.int p0)] [(.ref b34), (.ref b34), (.ref b32), (.ref b32)])) _
      refine XS.iconst X46.here hx rfl (hb hby d1_33) ?_
      show Steps p.tables e below (T46.setTop (mkF m 34 #[.val (.int p0)] [(.int (4 : Int32)), (.ref b34), (.ref b34), (.ref b32), (.ref b32)])) _
      refine XS.bipush X46.here hx rfl (hb hby d1_34) ?_
      show Steps p.tables e below (T46.setTop (mkF m 36 #[.val (.int p0)] [(.int (99 : Int32)), (.int (4 : Int32)), (.ref b34), (.ref b34), (.ref b32), (.ref b32)])) _
      exact kt
    obtain ⟨cl48, Ar48, qq48, S48, M48, H48, GG48⟩ := id VL46
    have hin48 : ¬ ((4 : Int32) < 0 ∨ cl48.slots.size ≤ ((4 : Int32)).toNatClampNeg) := inb_of S48 ⟨by decide, by decide⟩
    obtain ⟨T49, h49, X49, e49, W49, st49⟩ := stC X46 hx hZ e46 Ar48 (j := (4 : Int32)) hin48 (g := (mkF m 36 #[.val (.int p0)] [(.int (99 : Int32)), (.int (4 : Int32)), (.ref b34), (.ref b34), (.ref b32), (.ref b32)])) rfl rfl (hb hby d1_36)
    have K49 : ∀ t, Steps p.tables e below (T49.setTop (mkF m 37 #[.val (.int p0)] [(.ref b34), (.ref b32), (.ref b32)])) t → Steps p.tables e below G0 t := fun t kt => K47 t (st49 _ kt)
    have Z49 : n0 ≤ h49.size := Nat.le_trans Z46 (Keep.of_wr W49).1
    have VL49 : Arv Z h49 b34 k34 .char (9 : Int32) [(.int (nar .char (80 : Int32))), (.int (nar .char (111 : Int32))), (.int (nar .char (108 : Int32))), (.int (nar .char (105 : Int32))), (.int (nar .char (99 : Int32))), (.int (0 : Int32)), (.int (0 : Int32)), (.int (0 : Int32)), (.int (0 : Int32))] (.int (0 : Int32)) := Arv.set Ar48 qq48 S48 M48 H48 GG48 (fits_nar_char _) W49 4 rfl (Nat.le_of_ble_eq_true rfl)
    have N49 := Fr.snoc X49 N46 gn34
    have K50 : ∀ t, Steps p.tables e below (T49.setTop (mkF m 41 #[.val (.int p0)] [(.int (121 : Int32)), (.int (5 : Int32)), (.ref b34), (.ref b34), (.ref b32), (.ref b32)])) t → Steps p.tables e below G0 t := by
      intro t kt
      refine K49 t ?_
      refine XS.dup X49.here hx rfl (hb hby d1_37) rfl rfl ?_
      show Steps p.tables e below (T49.setTop (mkF m 38 #[.val (.int p0)] [(.ref b34), (.ref b34), (.ref b32), (.ref b32)])) _
      refine XS.iconst X49.here hx rfl (hb hby d1_38) ?_
      show Steps p.tables e below (T49.setTop (mkF m 39 #[.val (.int p0)] [(.int (5 : Int32)), (.ref b34), (.ref b34), (.ref b32), (.ref b32)])) _
      refine XS.bipush X49.here hx rfl (hb hby d1_39) ?_
      show Steps p.tables e below (T49.setTop (mkF m 41 #[.val (.int p0)] [(.int (121 : Int32)), (.int (5 : Int32)), (.ref b34), (.ref b34), (.ref b32), (.ref b32)])) _
      exact kt
    obtain ⟨cl51, Ar51, qq51, S51, M51, H51, GG51⟩ := id VL49
    have hin51 : ¬ ((5 : Int32) < 0 ∨ cl51.slots.size ≤ ((5 : Int32)).toNatClampNeg) := inb_of S51 ⟨by decide, by decide⟩
    obtain ⟨T52, h52, X52, e52, W52, st52⟩ := stC X49 hx hZ e49 Ar51 (j := (5 : Int32)) hin51 (g := (mkF m 41 #[.val (.int p0)] [(.int (121 : Int32)), (.int (5 : Int32)), (.ref b34), (.ref b34), (.ref b32), (.ref b32)])) rfl rfl (hb hby d1_41)
    have K52 : ∀ t, Steps p.tables e below (T52.setTop (mkF m 42 #[.val (.int p0)] [(.ref b34), (.ref b32), (.ref b32)])) t → Steps p.tables e below G0 t := fun t kt => K50 t (st52 _ kt)
    have Z52 : n0 ≤ h52.size := Nat.le_trans Z49 (Keep.of_wr W52).1
    have VL52 : Arv Z h52 b34 k34 .char (9 : Int32) [(.int (nar .char (80 : Int32))), (.int (nar .char (111 : Int32))), (.int (nar .char (108 : Int32))), (.int (nar .char (105 : Int32))), (.int (nar .char (99 : Int32))), (.int (nar .char (121 : Int32))), (.int (0 : Int32)), (.int (0 : Int32)), (.int (0 : Int32))] (.int (0 : Int32)) := Arv.set Ar51 qq51 S51 M51 H51 GG51 (fits_nar_char _) W52 5 rfl (Nat.le_of_ble_eq_true rfl)
    have N52 := Fr.snoc X52 N49 gn34
    have K53 : ∀ t, Steps p.tables e below (T52.setTop (mkF m 47 #[.val (.int p0)] [(.int (83 : Int32)), (.int (6 : Int32)), (.ref b34), (.ref b34), (.ref b32), (.ref b32)])) t → Steps p.tables e below G0 t := by
      intro t kt
      refine K52 t ?_
      refine XS.dup X52.here hx rfl (hb hby d1_42) rfl rfl ?_
      show Steps p.tables e below (T52.setTop (mkF m 43 #[.val (.int p0)] [(.ref b34), (.ref b34), (.ref b32), (.ref b32)])) _
      refine XS.bipush X52.here hx rfl (hb hby d1_43) ?_
      show Steps p.tables e below (T52.setTop (mkF m 45 #[.val (.int p0)] [(.int (6 : Int32)), (.ref b34), (.ref b34), (.ref b32), (.ref b32)])) _
      refine XS.bipush X52.here hx rfl (hb hby d1_45) ?_
      show Steps p.tables e below (T52.setTop (mkF m 47 #[.val (.int p0)] [(.int (83 : Int32)), (.int (6 : Int32)), (.ref b34), (.ref b34), (.ref b32), (.ref b32)])) _
      exact kt
    obtain ⟨cl54, Ar54, qq54, S54, M54, H54, GG54⟩ := id VL52
    have hin54 : ¬ ((6 : Int32) < 0 ∨ cl54.slots.size ≤ ((6 : Int32)).toNatClampNeg) := inb_of S54 ⟨by decide, by decide⟩
    obtain ⟨T55, h55, X55, e55, W55, st55⟩ := stC X52 hx hZ e52 Ar54 (j := (6 : Int32)) hin54 (g := (mkF m 47 #[.val (.int p0)] [(.int (83 : Int32)), (.int (6 : Int32)), (.ref b34), (.ref b34), (.ref b32), (.ref b32)])) rfl rfl (hb hby d1_47)
    have K55 : ∀ t, Steps p.tables e below (T55.setTop (mkF m 48 #[.val (.int p0)] [(.ref b34), (.ref b32), (.ref b32)])) t → Steps p.tables e below G0 t := fun t kt => K53 t (st55 _ kt)
    have Z55 : n0 ≤ h55.size := Nat.le_trans Z52 (Keep.of_wr W55).1
    have VL55 : Arv Z h55 b34 k34 .char (9 : Int32) [(.int (nar .char (80 : Int32))), (.int (nar .char (111 : Int32))), (.int (nar .char (108 : Int32))), (.int (nar .char (105 : Int32))), (.int (nar .char (99 : Int32))), (.int (nar .char (121 : Int32))), (.int (nar .char (83 : Int32))), (.int (0 : Int32)), (.int (0 : Int32))] (.int (0 : Int32)) := Arv.set Ar54 qq54 S54 M54 H54 GG54 (fits_nar_char _) W55 6 rfl (Nat.le_of_ble_eq_true rfl)
    have N55 := Fr.snoc X55 N52 gn34
    have K56 : ∀ t, Steps p.tables e below (T55.setTop (mkF m 53 #[.val (.int p0)] [(.int (101 : Int32)), (.int (7 : Int32)), (.ref b34), (.ref b34), (.ref b32), (.ref b32)])) t → Steps p.tables e below G0 t := by
      intro t kt
      refine K55 t ?_
      refine XS.dup X55.here hx rfl (hb hby d1_48) rfl rfl ?_
      show Steps p.tables e below (T55.setTop (mkF m 49 #[.val (.int p0)] [(.ref b34), (.ref b34), (.ref b32), (.ref b32)])) _
      refine XS.bipush X55.here hx rfl (hb hby d1_49) ?_
      show Steps p.tables e below (T55.setTop (mkF m 51 #[.val (.int p0)] [(.int (7 : Int32)), (.ref b34), (.ref b34), (.ref b32), (.ref b32)])) _
      refine XS.bipush X55.here hx rfl (hb hby d1_51) ?_
      show Steps p.tables e below (T55.setTop (mkF m 53 #[.val (.int p0)] [(.int (101 : Int32)), (.int (7 : Int32)), (.ref b34), (.ref b34), (.ref b32), (.ref b32)])) _
      exact kt
    obtain ⟨cl57, Ar57, qq57, S57, M57, H57, GG57⟩ := id VL55
    have hin57 : ¬ ((7 : Int32) < 0 ∨ cl57.slots.size ≤ ((7 : Int32)).toNatClampNeg) := inb_of S57 ⟨by decide, by decide⟩
    obtain ⟨T58, h58, X58, e58, W58, st58⟩ := stC X55 hx hZ e55 Ar57 (j := (7 : Int32)) hin57 (g := (mkF m 53 #[.val (.int p0)] [(.int (101 : Int32)), (.int (7 : Int32)), (.ref b34), (.ref b34), (.ref b32), (.ref b32)])) rfl rfl (hb hby d1_53)
    have K58 : ∀ t, Steps p.tables e below (T58.setTop (mkF m 54 #[.val (.int p0)] [(.ref b34), (.ref b32), (.ref b32)])) t → Steps p.tables e below G0 t := fun t kt => K56 t (st58 _ kt)
    have Z58 : n0 ≤ h58.size := Nat.le_trans Z55 (Keep.of_wr W58).1
    have VL58 : Arv Z h58 b34 k34 .char (9 : Int32) [(.int (nar .char (80 : Int32))), (.int (nar .char (111 : Int32))), (.int (nar .char (108 : Int32))), (.int (nar .char (105 : Int32))), (.int (nar .char (99 : Int32))), (.int (nar .char (121 : Int32))), (.int (nar .char (83 : Int32))), (.int (nar .char (101 : Int32))), (.int (0 : Int32))] (.int (0 : Int32)) := Arv.set Ar57 qq57 S57 M57 H57 GG57 (fits_nar_char _) W58 7 rfl (Nat.le_of_ble_eq_true rfl)
    have N58 := Fr.snoc X58 N55 gn34
    have K59 : ∀ t, Steps p.tables e below (T58.setTop (mkF m 59 #[.val (.int p0)] [(.int (116 : Int32)), (.int (8 : Int32)), (.ref b34), (.ref b34), (.ref b32), (.ref b32)])) t → Steps p.tables e below G0 t := by
      intro t kt
      refine K58 t ?_
      refine XS.dup X58.here hx rfl (hb hby d1_54) rfl rfl ?_
      show Steps p.tables e below (T58.setTop (mkF m 55 #[.val (.int p0)] [(.ref b34), (.ref b34), (.ref b32), (.ref b32)])) _
      refine XS.bipush X58.here hx rfl (hb hby d1_55) ?_
      show Steps p.tables e below (T58.setTop (mkF m 57 #[.val (.int p0)] [(.int (8 : Int32)), (.ref b34), (.ref b34), (.ref b32), (.ref b32)])) _
      refine XS.bipush X58.here hx rfl (hb hby d1_57) ?_
      show Steps p.tables e below (T58.setTop (mkF m 59 #[.val (.int p0)] [(.int (116 : Int32)), (.int (8 : Int32)), (.ref b34), (.ref b34), (.ref b32), (.ref b32)])) _
      exact kt
    obtain ⟨cl60, Ar60, qq60, S60, M60, H60, GG60⟩ := id VL58
    have hin60 : ¬ ((8 : Int32) < 0 ∨ cl60.slots.size ≤ ((8 : Int32)).toNatClampNeg) := inb_of S60 ⟨by decide, by decide⟩
    obtain ⟨T61, h61, X61, e61, W61, st61⟩ := stC X58 hx hZ e58 Ar60 (j := (8 : Int32)) hin60 (g := (mkF m 59 #[.val (.int p0)] [(.int (116 : Int32)), (.int (8 : Int32)), (.ref b34), (.ref b34), (.ref b32), (.ref b32)])) rfl rfl (hb hby d1_59)
    have K61 : ∀ t, Steps p.tables e below (T61.setTop (mkF m 60 #[.val (.int p0)] [(.ref b34), (.ref b32), (.ref b32)])) t → Steps p.tables e below G0 t := fun t kt => K59 t (st61 _ kt)
    have Z61 : n0 ≤ h61.size := Nat.le_trans Z58 (Keep.of_wr W61).1
    have VL61 : Arv Z h61 b34 k34 .char (9 : Int32) [(.int (nar .char (80 : Int32))), (.int (nar .char (111 : Int32))), (.int (nar .char (108 : Int32))), (.int (nar .char (105 : Int32))), (.int (nar .char (99 : Int32))), (.int (nar .char (121 : Int32))), (.int (nar .char (83 : Int32))), (.int (nar .char (101 : Int32))), (.int (nar .char (116 : Int32)))] (.int (0 : Int32)) := Arv.set Ar60 qq60 S60 M60 H60 GG60 (fits_nar_char _) W61 8 rfl (Nat.le_of_ble_eq_true rfl)
    have N61 := Fr.snoc X61 N58 gn34
    have f62 := ((((((((((A32.ext E34).wr W37).wr W40).wr W43).wr W46).wr W49).wr W52).wr W55).wr W58).wr W61)
    have f63 := ((((((((((F_value_b32.ext E34).other W37 (Or.inl ne_b32_b34)).other W40 (Or.inl ne_b32_b34)).other W43 (Or.inl ne_b32_b34)).other W46 (Or.inl ne_b32_b34)).other W49 (Or.inl ne_b32_b34)).other W52 (Or.inl ne_b32_b34)).other W55 (Or.inl ne_b32_b34)).other W58 (Or.inl ne_b32_b34)).other W61 (Or.inl ne_b32_b34))
    have f64 := ((((((((((F_coder_b32.ext E34).other W37 (Or.inl ne_b32_b34)).other W40 (Or.inl ne_b32_b34)).other W43 (Or.inl ne_b32_b34)).other W46 (Or.inl ne_b32_b34)).other W49 (Or.inl ne_b32_b34)).other W52 (Or.inl ne_b32_b34)).other W55 (Or.inl ne_b32_b34)).other W58 (Or.inl ne_b32_b34)).other W61 (Or.inl ne_b32_b34))
    have f65 := (((((((((((HO.ext E32).ext E34).wr W37 gn34).wr W40 gn34).wr W43 gn34).wr W46 gn34).wr W49 gn34).wr W52 gn34).wr W55 gn34).wr W58 gn34).wr W61 gn34)
    obtain ⟨v66, _, ⟨T66, L66, k66, n66⟩, -, X66, ⟨Lc66, hQ66, l66, y66, z66⟩, st66⟩ := X61.specialBack hx (y := (⟨"java/lang/String", "<init>", "([C)V"⟩ : MethodName)) rfl hown (mvT hZ (hw _ (List.mem_of_getElem? (i := 11) rfl))) (mvT hZ (hw _ (List.mem_of_getElem? (i := 12) rfl))) (mvT hZ (hw _ (List.mem_of_getElem? (i := 13) rfl))) (by decide) (StrChars.Road.backV (W := 1) hZ (own_wsV hw) (kI := 4) (hw _ (List.mem_of_getElem? (i := 8) rfl)) (cs := own_set) (bs := (own_set : List Int32).map (fun c => c.toInt8.toInt32)) (n := 9) gn32 Z61 f62 f63 f64 VL61 (O2.ext f65.2) P5 rfl rfl (by decide) (by decide) (by decide) rfl (by decide) (by decide)) (g := (mkF m 60 #[.val (.int p0)] [(.ref b34), (.ref b32), (.ref b32)])) rfl (by rw [hml]; rfl) (Steps.refl _) (a := b32) (argsL := [(.ref b34)]) (rest := [(.ref b32)]) (lenOf pd_P_CQV rfl) rfl (by show 2 * 0 + _ ≤ _; exact Nat.le_of_eq rfl) (hb hby d1_60) (fun _ _ => ⟨rfl, e61, (by decide : 2 + 1 ≤ _), (by decide : 13 + 9 ≤ _)⟩)
    dsimp only [Pt.U, Pt.locs, Pt.cells, Pt.slots] at X66 l66 y66 z66 st66 hQ66
    subst l66 y66 z66
    obtain ⟨rfl, N66q, KV66, EX66, CO66, tt66, kb66, -, -, -, VV66, KK66⟩ := hQ66
    have N66 := Fr.app N61 N66q
    have K66 : ∀ t, Steps p.tables e below (T66.setTop (mkF m 63 #[.val (.int p0)] [(.ref b32)])) t → Steps p.tables e below G0 t := fun t kt => K61 t (st66.trans kt)
    have Z66 : n0 ≤ T66.heap.size := Nat.le_trans Z61 KV66.1
    have sn66 : own_Str Z T66.heap b32 own_set := ⟨EX66, CO66, ⟨_, _, VV66, KK66⟩, (by decide), Nat.le_of_ble_eq_true rfl⟩
    have KQ67_0 := Keep.refl h0 []
    have sz67_32 := Nat.le_trans KQ67_0.1 (Nat.le_of_eq g32.symm)
    have KQ67_1 := KQ67_0.ext E32
    have sz67_34 := Nat.le_trans KQ67_1.1 (Nat.le_of_eq g34.symm)
    have KQ67_2 := KQ67_1.ext E34
    have KQ67_3 := KQ67_2.wr W37 (Or.inr sz67_34)
    have KQ67_4 := KQ67_3.wr W40 (Or.inr sz67_34)
    have KQ67_5 := KQ67_4.wr W43 (Or.inr sz67_34)
    have KQ67_6 := KQ67_5.wr W46 (Or.inr sz67_34)
    have KQ67_7 := KQ67_6.wr W49 (Or.inr sz67_34)
    have KQ67_8 := KQ67_7.wr W52 (Or.inr sz67_34)
    have KQ67_9 := KQ67_8.wr W55 (Or.inr sz67_34)
    have KQ67_10 := KQ67_9.wr W58 (Or.inr sz67_34)
    have KQ67_11 := KQ67_10.wr W61 (Or.inr sz67_34)
    have KQ67_12 := KQ67_11.trans KV66 (fun x hx => by simp only [List.mem_cons, List.not_mem_nil, or_false] at hx; rcases hx with rfl <;> first | exact (Or.inr sz67_32))
    obtain ⟨fs, hr, hrun, hended, hW, hsame⟩ := X66.leave (v := some (.ref b32)) (fun h => by rw [Bd.returns] at h; cases h)
    refine ⟨_, _, ?_, hrun, hended, _, _, rfl, ?_, ⟨_, rfl⟩, hW, hsame.mono (by decide) (by decide)⟩
    · rw [← hG0]
      refine K66 _ ?_
      exact retOut X66 hx (t := (.object "java/lang/String")) Bd.returns rfl (Or.inr (Or.inr (Or.inr (Or.inr ⟨rfl, rfl, rfl⟩)))) (hb hby d1_63) hr
    · show Q1 Z p0 G1 h0 n0 _ T66.heap _
      exact ⟨_, rfl, N66, KQ67_12, by rw [own_kind, if_neg hc2]; exact sn66⟩
theorem own_safe {Z : State} {vm : Vm} {h : Heap} {EL : List (String × Nat)} {x : Addr} (hal : Z.vm.Alike vm) (E : Exa Z h x "java/lang/String") (F : Fld Z h x "java/lang/String" "value" "[B" .null) : Safe Z EL vm h x := fun B => by
  obtain ⟨p, -, u, a, -, q, -, G, rfl | rfl⟩ := B
  · obtain ⟨cell, cf, k, i, f, f1, f2, f3, f4, f5, f6, f7⟩ := F
    cases (show h[q.sa]? = some q.sC from G.ha).symm.trans f1
    obtain ⟨cS, ⟨⟨-, -, -, ⟨c1, k1, i1, g1, -⟩, -, -, -, v1, -⟩, -⟩, -⟩ := G
    obtain ⟨k3, e3, -⟩ := State.fieldFound?_setVm (s := { Z with heap := h }) hal f2
    have e4 := (show (Wst Z vm h).fieldFound? _ _ _ = _ from e3).symm.trans g1
    cases e4
    rw [f7] at v1
    cases v1
  · obtain ⟨cell, k, e1, e2, e3, -, -⟩ := E
    cases (show h[q.sd]? = some q.SA from G.hd).symm.trans e1
    obtain ⟨cS, -, -, f, -⟩ := G
    have f' : vm.findClass "[B" = some q.SA.cls := f
    rw [hal.findClass] at f'
    obtain ⟨k1, q1, q2⟩ := Vm.findClass_spec f'
    obtain ⟨k2, q3, q4⟩ := Vm.findClass_spec e2
    cases q1.symm.trans q3
    exact absurd (q2.symm.trans q4) (by decide)
theorem d3_0 : decode jdk_42_method_149_code 0 = .ok (.aload_n 0, 1) := by decide +kernel
theorem d3_1 : decode jdk_42_method_149_code 1 = .ok (.invokespecial 1, 3) := by decide +kernel
theorem d3_4 : decode jdk_42_method_149_code 4 = .ok (.iload_n 3, 1) := by decide +kernel
theorem d3_5 : decode jdk_42_method_149_code 5 = .ok (.ifCond .ne 22, 3) := by decide +kernel
theorem d3_8 : decode jdk_42_method_149_code 8 = .ok (.aload_n 0, 1) := by decide +kernel
theorem d3_9 : decode jdk_42_method_149_code 9 = .ok (.ldc 7, 2) := by decide +kernel
theorem d3_11 : decode jdk_42_method_149_code 11 = .ok (.getfield 9, 3) := by decide +kernel
theorem d3_14 : decode jdk_42_method_149_code 14 = .ok (.putfield 9, 3) := by decide +kernel
theorem d3_17 : decode jdk_42_method_149_code 17 = .ok (.aload_n 0, 1) := by decide +kernel
theorem d3_18 : decode jdk_42_method_149_code 18 = .ok (.ldc 7, 2) := by decide +kernel
theorem d3_20 : decode jdk_42_method_149_code 20 = .ok (.getfield 15, 3) := by decide +kernel
theorem d3_23 : decode jdk_42_method_149_code 23 = .ok (.putfield 15, 3) := by decide +kernel
theorem d3_26 : decode jdk_42_method_149_code 26 = .ok (.return_, 1) := by decide +kernel
theorem d3_27 : decode jdk_42_method_149_code 27 = .ok (.getstatic 38, 3) := by decide +kernel
theorem d3_30 : decode jdk_42_method_149_code 30 = .ok (.ifCond .eq 28, 3) := by decide +kernel
theorem d3_33 : decode jdk_42_method_149_code 33 = .ok (.aload_n 1, 1) := by decide +kernel
theorem d3_34 : decode jdk_42_method_149_code 34 = .ok (.iload_n 2, 1) := by decide +kernel
theorem d3_35 : decode jdk_42_method_149_code 35 = .ok (.iload_n 3, 1) := by decide +kernel
theorem d3_36 : decode jdk_42_method_149_code 36 = .ok (.invokestatic 177, 3) := by decide +kernel
theorem d3_39 : decode jdk_42_method_149_code 39 = .ok (.astore 5, 2) := by decide +kernel
theorem d3_41 : decode jdk_42_method_149_code 41 = .ok (.aload_n 0, 1) := by decide +kernel
theorem d3_42 : decode jdk_42_method_149_code 42 = .ok (.aload 5, 2) := by decide +kernel
theorem d3_44 : decode jdk_42_method_149_code 44 = .ok (.iload_n 3, 1) := by decide +kernel
theorem d3_45 : decode jdk_42_method_149_code 45 = .ok (.invokestatic 47, 3) := by decide +kernel
theorem d3_48 : decode jdk_42_method_149_code 48 = .ok (.putfield 15, 3) := by decide +kernel
theorem d3_51 : decode jdk_42_method_149_code 51 = .ok (.aload_n 0, 1) := by decide +kernel
theorem d3_52 : decode jdk_42_method_149_code 52 = .ok (.aload 5, 2) := by decide +kernel
theorem d3_54 : decode jdk_42_method_149_code 54 = .ok (.putfield 9, 3) := by decide +kernel
theorem d3_57 : decode jdk_42_method_149_code 57 = .ok (.return_, 1) := by decide +kernel
theorem d3_58 : decode jdk_42_method_149_code 58 = .ok (.aload_n 0, 1) := by decide +kernel
theorem d3_59 : decode jdk_42_method_149_code 59 = .ok (.iconst 1, 1) := by decide +kernel
theorem d3_60 : decode jdk_42_method_149_code 60 = .ok (.putfield 15, 3) := by decide +kernel
theorem d3_63 : decode jdk_42_method_149_code 63 = .ok (.aload_n 0, 1) := by decide +kernel
theorem d3_64 : decode jdk_42_method_149_code 64 = .ok (.aload_n 1, 1) := by decide +kernel
theorem d3_65 : decode jdk_42_method_149_code 65 = .ok (.iload_n 2, 1) := by decide +kernel
theorem d3_66 : decode jdk_42_method_149_code 66 = .ok (.iload_n 3, 1) := by decide +kernel
theorem d3_67 : decode jdk_42_method_149_code 67 = .ok (.invokestatic 180, 3) := by decide +kernel
theorem d3_70 : decode jdk_42_method_149_code 70 = .ok (.putfield 9, 3) := by decide +kernel
theorem d3_73 : decode jdk_42_method_149_code 73 = .ok (.return_, 1) := by decide +kernel
theorem pn_java_lang_String : plainName "java/lang/String" = true := by first | (simp [plainName, overriddenIn]; done) | decide +kernel
theorem ef_rm3e (m : MethodId) (a0 : Addr) (a1 : Addr) : entryFrame m #[(.ref a0), (.ref a1), (.int (0 : Int32)), (.int (0 : Int32)), .null] 6 = (mkF m 0 #[.val (.ref a0), .val (.ref a1), .val (.int (0 : Int32)), .val (.int (0 : Int32)), .val .null, .unset] []) := by first | (simp [entryFrame, mkF, argsToLocals, Value.category]; done) | rfl
def Q3e (Z : State) (a0 : Addr) (a1 : Addr) (h0 : Heap) (n0 : Nat) (v : Option Value) (h : Heap) (L : List Loc) : Prop := v = none ∧ Fr n0 L ∧ Keep h0 h [a0] ∧ own_Str Z h a0 []
set_option maxRecDepth 65536 in
set_option maxHeartbeats 40000000 in
theorem rm3e (l : Launch) (Z : State) (aa : Array Value) (hw : ∀ d ∈ tables_1, d.before aa Z = true) (hEL : EW Z aa consts_1) (ws : List Jvm.Cond) (a0 : Addr) (a1 : Addr) (h0 : Heap) (n0 : Nat) (Z0 : n0 ≤ h0.size) (gn : n0 ≤ a0) (E0 : Exa Z h0 a0 "java/lang/String") (F_value : Fld Z h0 a0 "java/lang/String" "value" "[B" .null) (F_coder : Fld Z h0 a0 "java/lang/String" "coder" "B" (.int (0 : Int32))) :
    MetFree l (⟨"java/lang/String", "<init>", "([CIILjava/lang/Void;)V"⟩ : MethodName) (head1 (Jvm.Cond.code (⟨"java/lang/String", "<init>", "([CIILjava/lang/Void;)V"⟩ : MethodName) jdk_42_method_149_code 6 none :: ws) ({ frames := 1, cells := 4, slots := 8, locals := 12 } : Room)) (fun a U => a = #[(.ref a0), (.ref a1), (.int (0 : Int32)), (.int (0 : Int32)), .null] ∧ Z.Warmed39 U.vm ∧ U.heap = h0 ∧ CHv Z consts_1 U.vm h0) (fun _ _ _ _ _ => True) (fun _ U o U' => ∃ v L, o = .returned v ∧ Q3e Z a0 a1 h0 n0 v U'.heap L ∧ CHr Z consts_1 U.vm U.heap U'.vm U'.heap ∧ ReturnedEndW U o U' L ({ frames := 1, cells := 4, slots := 8, locals := 12 } : Room).cells ({ frames := 1, cells := 4, slots := 8, locals := 12 } : Room).slots) := by
  refine MetFree.of_bodySF (plainFor_of_name pn_java_lang_String) hisR ?_
  intro p e s m args below meth c s₁ Bd hml0 hP hK
  obtain ⟨rfl, hZ, hh, hCH⟩ := hP
  have hx := Bd.exec
  have hby := Bd.bytes
  have hml : c.maxLocals = 6 := hml0
  have hown : s.vm.findClass "java/lang/String" = some m.cls := findClass_of_methodNamed Bd.named
  have hnm := (name_of_methodNamed Bd.named Bd.method).1
  have X0 : Stand p l e ({ frames := 1, cells := 4, slots := 8, locals := 12 } : Room) (s.setVm s.vm) m #[(.ref a0), (.ref a1), (.int (0 : Int32)), (.int (0 : Int32)), .null] below meth c s₁ [] 0 0 := (Stand.of_body Bd : Stand p l e ({ frames := 1, cells := 4, slots := 8, locals := 12 } : Room) s m #[(.ref a0), (.ref a1), (.int (0 : Int32)), (.int (0 : Int32)), .null] below meth c s₁ [] 0 0)
  have hS0 : s.Since s.vm h0.size := (State.WarmedH.refl s).since _
  have hk0 : h0.size ≤ h0.size := Nat.le_refl _
  have CH0 : CHr Z consts_1 s.vm h0 s.vm h0 := CHr.refl hCH
  have e0 : s₁.heap = h0 := by rw [← hh, Bd.state]; rfl
  have N0 := Fr.nil n0
  obtain ⟨G0, hG0⟩ : ∃ G, G = s₁.setTop (entryFrame m #[(.ref a0), (.ref a1), (.int (0 : Int32)), (.int (0 : Int32)), .null] 6) := ⟨_, rfl⟩
  have K0 : ∀ t, Steps p.tables e below (s₁.setTop (mkF m 0 #[.val (.ref a0), .val (.ref a1), .val (.int (0 : Int32)), .val (.int (0 : Int32)), .val .null, .unset] [])) t → Steps p.tables e below G0 t := fun t k => by rw [hG0]; exact castTop (ef_rm3e m a0 a1) k
  have K1 : ∀ t, Steps p.tables e below (s₁.setTop (mkF m 1 #[.val (.ref a0), .val (.ref a1), .val (.int (0 : Int32)), .val (.int (0 : Int32)), .val .null, .unset] [(.ref a0)])) t → Steps p.tables e below G0 t := by
    intro t kt
    refine K0 t ?_
    refine XS.aloadN X0.here hx rfl (hb hby d3_0) rfl rfl ?_
    show Steps p.tables e below (s₁.setTop (mkF m 1 #[.val (.ref a0), .val (.ref a1), .val (.int (0 : Int32)), .val (.int (0 : Int32)), .val .null, .unset] [(.ref a0)])) _
    exact kt
  obtain ⟨T2, X2, e2, st2⟩ := initO X0 hx hZ hown (hw _ (List.mem_of_getElem? (i := 18) rfl)) (hw _ (List.mem_of_getElem? (i := 19) rfl)) (hw _ (List.mem_of_getElem? (i := 20) rfl)) e0 (g := (mkF m 1 #[.val (.ref a0), .val (.ref a1), .val (.int (0 : Int32)), .val (.int (0 : Int32)), .val .null, .unset] [(.ref a0)])) rfl (by rw [hml]; rfl) rfl (hb hby d3_1) (by decide) (W := 0) (by show 2 * 0 + _ ≤ _; exact Nat.le_of_eq rfl) (by decide)
  have K2 : ∀ t, Steps p.tables e below (T2.setTop (mkF m 4 #[.val (.ref a0), .val (.ref a1), .val (.int (0 : Int32)), .val (.int (0 : Int32)), .val .null, .unset] [])) t → Steps p.tables e below G0 t := fun t kt => K1 t (st2 _ kt)
  have K3 : ∀ t, Steps p.tables e below (T2.setTop (mkF m 9 #[.val (.ref a0), .val (.ref a1), .val (.int (0 : Int32)), .val (.int (0 : Int32)), .val .null, .unset] [(.ref a0)])) t → Steps p.tables e below G0 t := by
    intro t kt
    refine K2 t ?_
    refine XS.iloadN X2.here hx rfl (hb hby d3_4) rfl ?_
    show Steps p.tables e below (T2.setTop (mkF m 5 #[.val (.ref a0), .val (.ref a1), .val (.int (0 : Int32)), .val (.int (0 : Int32)), .val .null, .unset] [(.int (0 : Int32))])) _
    refine XS.ifNo X2.here hx rfl (hb hby d3_5) rfl ((if0 _ _).trans (teq rfl).2) ?_
    show Steps p.tables e below (T2.setTop (mkF m 8 #[.val (.ref a0), .val (.ref a1), .val (.int (0 : Int32)), .val (.int (0 : Int32)), .val .null, .unset] [])) _
    refine XS.aloadN X2.here hx rfl (hb hby d3_8) rfl rfl ?_
    show Steps p.tables e below (T2.setTop (mkF m 9 #[.val (.ref a0), .val (.ref a1), .val (.int (0 : Int32)), .val (.int (0 : Int32)), .val .null, .unset] [(.ref a0)])) _
    exact kt
  obtain ⟨a4, T4, h4, kk4, bb4, kc4, X4, e4, E4, hS4, hk4, hZ4, hown4, LE4, LC4, LV4, LA4, la4, lb4, CR4, -, -, st4⟩ := ldcCH X2 hx hZ hown (hw _ (List.mem_of_getElem? (i := 40) rfl)) (own_wS hw) e2 hS0 hk0 hEL (by decide +kernel) CH0.1 (vs := []) (z := (0 : Int32)) ⟨by decide, by decide⟩ (by decide) (by decide) (g := (mkF m 9 #[.val (.ref a0), .val (.ref a1), .val (.int (0 : Int32)), .val (.int (0 : Int32)), .val .null, .unset] [(.ref a0)])) rfl (hb hby d3_9) (n := 0) (by decide) (by decide) (by decide) (by decide)
  have K4 : ∀ t, Steps p.tables e below (T4.setTop (mkF m 11 #[.val (.ref a0), .val (.ref a1), .val (.int (0 : Int32)), .val (.int (0 : Int32)), .val .null, .unset] [(.ref a4), (.ref a0)])) t → Steps p.tables e below G0 t := fun t kt => K3 t (st4 _ kt)
  have Z4 : n0 ≤ h4.size := Nat.le_trans Z0 E4.1
  have CH4 := CH0.trans CR4
  have f5 := (E0.ext E4)
  have f6 := (F_value.ext E4)
  have sf4 : Safe Z consts_1 T4.vm h4 a0 := own_safe (hZ4.alike) f5 f6
  have ne_a0_a4 : a0 ≠ a4 := Fld.ne f6 LV4 (by simp)
  have neb4 : a0 ≠ bb4 := Exa.neArv f5 LA4 (hw _ (List.mem_of_getElem? (i := 8) rfl))
  have ne_a0_bb4 := neb4
  obtain ⟨T7, X7, e7, st7⟩ := getF X4 hx hZ4 hown4 (host := "") (Or.inl (hw _ (List.mem_of_getElem? (i := 35) rfl))) Via.refl e4 LV4 (g := (mkF m 11 #[.val (.ref a0), .val (.ref a1), .val (.int (0 : Int32)), .val (.int (0 : Int32)), .val .null, .unset] [(.ref a4), (.ref a0)])) rfl rfl (hb hby d3_11)
  have K7 : ∀ t, Steps p.tables e below (T7.setTop (mkF m 14 #[.val (.ref a0), .val (.ref a1), .val (.int (0 : Int32)), .val (.int (0 : Int32)), .val .null, .unset] [(.ref bb4), (.ref a0)])) t → Steps p.tables e below G0 t := fun t kt => K4 t (st7 _ kt)
  obtain ⟨T8, h8, X8, e8, W8, st8⟩ := putF X7 hx hZ4 hown4 (host := "") (Or.inl (hw _ (List.mem_of_getElem? (i := 35) rfl))) Via.refl e7 f6 f5 (Or.inr ⟨(hw _ (List.mem_of_getElem? (i := 36) rfl)), rfl, hnm⟩) (hw _ (List.mem_of_getElem? (i := 8) rfl)) (ty := (.array .byte)) (by decide) rfl rfl (g := (mkF m 14 #[.val (.ref a0), .val (.ref a1), .val (.int (0 : Int32)), .val (.int (0 : Int32)), .val .null, .unset] [(.ref bb4), (.ref a0)])) rfl rfl (hb hby d3_14)
  have K8 : ∀ t, Steps p.tables e below (T8.setTop (mkF m 17 #[.val (.ref a0), .val (.ref a1), .val (.int (0 : Int32)), .val (.int (0 : Int32)), .val .null, .unset] [])) t → Steps p.tables e below G0 t := fun t kt => K7 t (st8 _ kt)
  have Fw8 := (f6).same W8
  have N8 := Fr.snoc X8 N0 gn
  have Z8 : n0 ≤ h8.size := Nat.le_trans Z4 (Keep.of_wr W8).1
  have CW8 := CH4.trans (CHr.wr W8 sf4 CH4.1)
  have sg8 := CHr.safe (CHr.wr W8 sf4 CH4.1) (f5).lt sf4
  have f9 := (f5.wr W8)
  have K10 : ∀ t, Steps p.tables e below (T8.setTop (mkF m 18 #[.val (.ref a0), .val (.ref a1), .val (.int (0 : Int32)), .val (.int (0 : Int32)), .val .null, .unset] [(.ref a0)])) t → Steps p.tables e below G0 t := by
    intro t kt
    refine K8 t ?_
    refine XS.aloadN X8.here hx rfl (hb hby d3_17) rfl rfl ?_
    show Steps p.tables e below (T8.setTop (mkF m 18 #[.val (.ref a0), .val (.ref a1), .val (.int (0 : Int32)), .val (.int (0 : Int32)), .val .null, .unset] [(.ref a0)])) _
    exact kt
  have f11 := (Nat.le_trans hk4 (Keep.of_wr W8).1)
  obtain ⟨a12, T12, h12, kk12, bb12, kc12, X12, e12, E12, hS12, hk12, hZ12, hown12, LE12, LC12, LV12, LA12, la12, lb12, CR12, -, -, st12⟩ := ldcCH X8 hx hZ4 hown4 (hw _ (List.mem_of_getElem? (i := 40) rfl)) (own_wS hw) e8 hS4 f11 hEL (by decide +kernel) CW8.1 (vs := []) (z := (0 : Int32)) ⟨by decide, by decide⟩ (by decide) (by decide) (g := (mkF m 18 #[.val (.ref a0), .val (.ref a1), .val (.int (0 : Int32)), .val (.int (0 : Int32)), .val .null, .unset] [(.ref a0)])) rfl (hb hby d3_18) (n := 0) (by decide) (by decide) (by decide) (by decide)
  have K12 : ∀ t, Steps p.tables e below (T12.setTop (mkF m 20 #[.val (.ref a0), .val (.ref a1), .val (.int (0 : Int32)), .val (.int (0 : Int32)), .val .null, .unset] [(.ref a12), (.ref a0)])) t → Steps p.tables e below G0 t := fun t kt => K10 t (st12 _ kt)
  have Z12 : n0 ≤ h12.size := Nat.le_trans Z8 E12.1
  have CH12 := CW8.trans CR12
  have sh12 := CHr.safe CR12 (f9).lt sg8
  obtain ⟨T13, X13, e13, st13⟩ := getF X12 hx hZ12 hown12 (host := "") (Or.inl (hw _ (List.mem_of_getElem? (i := 33) rfl))) Via.refl e12 LC12 (g := (mkF m 20 #[.val (.ref a0), .val (.ref a1), .val (.int (0 : Int32)), .val (.int (0 : Int32)), .val .null, .unset] [(.ref a12), (.ref a0)])) rfl rfl (hb hby d3_20)
  have K13 : ∀ t, Steps p.tables e below (T13.setTop (mkF m 23 #[.val (.ref a0), .val (.ref a1), .val (.int (0 : Int32)), .val (.int (0 : Int32)), .val .null, .unset] [(.int (0 : Int32)), (.ref a0)])) t → Steps p.tables e below G0 t := fun t kt => K12 t (st13 _ kt)
  have f14 := (((F_coder.ext E4).other W8 (Or.inr (slot_ne (Or.inr (hw _ (List.mem_of_getElem? (i := 34) rfl))) (Or.inr (hw _ (List.mem_of_getElem? (i := 36) rfl))) (by decide) (t := .byte) (t' := (.array .byte)) (by decide) (by decide)))).ext E12)
  have f15 := (f9.ext E12)
  obtain ⟨T16, h16, X16, e16, W16, st16⟩ := putFN X13 hx hZ12 hown12 (hw _ (List.mem_of_getElem? (i := 33) rfl)) Via.refl e13 f14 f15 (Or.inr ⟨(hw _ (List.mem_of_getElem? (i := 34) rfl)), rfl, hnm⟩) (hw _ (List.mem_of_getElem? (i := 8) rfl)) (ty := .byte) (v' := (.int (nar .byte (0 : Int32)))) (by decide) rfl (fits_nar_byte _) (g := (mkF m 23 #[.val (.ref a0), .val (.ref a1), .val (.int (0 : Int32)), .val (.int (0 : Int32)), .val .null, .unset] [(.int (0 : Int32)), (.ref a0)])) rfl rfl (hb hby d3_23)
  have K16 : ∀ t, Steps p.tables e below (T16.setTop (mkF m 26 #[.val (.ref a0), .val (.ref a1), .val (.int (0 : Int32)), .val (.int (0 : Int32)), .val .null, .unset] [])) t → Steps p.tables e below G0 t := fun t kt => K13 t (st16 _ kt)
  have Fw16 := (f14).same W16
  have N16 := Fr.snoc X16 N8 gn
  have Z16 : n0 ≤ h16.size := Nat.le_trans Z12 (Keep.of_wr W16).1
  have CW16 := CH12.trans (CHr.wr W16 sh12 CH12.1)
  have KQ17_0 := Keep.refl h0 [a0]
  have KQ17_1 := KQ17_0.ext E4
  have KQ17_2 := KQ17_1.wr W8 (Or.inl (List.mem_of_getElem? (i := 0) rfl))
  have KQ17_3 := KQ17_2.ext E12
  have KQ17_4 := KQ17_3.wr W16 (Or.inl (List.mem_of_getElem? (i := 0) rfl))
  have f18 := (f15.wr W16)
  have f19 := ((Fw8.ext E12).other W16 (Or.inr (slot_ne (Or.inr (hw _ (List.mem_of_getElem? (i := 36) rfl))) (Or.inr (hw _ (List.mem_of_getElem? (i := 34) rfl))) (by decide) (t := (.array .byte)) (t' := .byte) (by decide) (by decide))))
  have f20 := (((LA4.other W8 (Ne.symm ne_a0_bb4)).ext E12).other W16 (Ne.symm ne_a0_bb4))
  have f21 := (Nat.le_trans hk12 (Keep.of_wr W16).1)
  obtain ⟨fs, hr, hrun, hended, hREW⟩ := X16.leaveW hS12 (by rw [e16]; exact f21) (v := none) (fun _ => rfl)
  have CHE := CW16.trans (CHv.at X16 hZ12 hEL CW16.1)
  refine ⟨_, _, ?_, hrun, hended, _, _, rfl, ?_, ?_, hREW.1, hREW.2.1, hREW.2.2.1, hREW.2.2.2.mono (by decide) (by decide)⟩
  · rw [← hG0]
    refine K16 _ ?_
    exact X16.returnOut hx Bd.returns (hb hby d3_26) hr
  · show Q3e Z a0 a1 h0 n0 _ T16.heap _
    rw [e16]
    exact ⟨rfl, N16, KQ17_4, ⟨f18, Fw16, ⟨_, _, f19, f20⟩, by decide, by decide⟩⟩
  · rw [hh]
    show CHr Z consts_1 s.vm h0 T16.vm T16.heap
    rw [e16]
    exact CHE
theorem d2_0 : decode jdk_42_method_3_code 0 = .ok (.aload_n 0, 1) := by decide +kernel
theorem d2_1 : decode jdk_42_method_3_code 1 = .ok (.aload_n 1, 1) := by decide +kernel
theorem d2_2 : decode jdk_42_method_3_code 2 = .ok (.iconst 0, 1) := by decide +kernel
theorem d2_3 : decode jdk_42_method_3_code 3 = .ok (.aload_n 1, 1) := by decide +kernel
theorem d2_4 : decode jdk_42_method_3_code 4 = .ok (.arraylength, 1) := by decide +kernel
theorem d2_5 : decode jdk_42_method_3_code 5 = .ok (.aconst_null, 1) := by decide +kernel
theorem d2_6 : decode jdk_42_method_3_code 6 = .ok (.invokespecial 27, 3) := by decide +kernel
theorem d2_9 : decode jdk_42_method_3_code 9 = .ok (.return_, 1) := by decide +kernel
theorem pd_P_CIILjava_lang_Void_QV : parseMethodDescriptor "([CIILjava/lang/Void;)V" = some ⟨[(.array .char), .int, .int, (.object "java/lang/Void")], none⟩ := by decide +kernel
theorem ef_rm2e (m : MethodId) (a0 : Addr) (a1 : Addr) : entryFrame m #[(.ref a0), (.ref a1)] 2 = (mkF m 0 #[.val (.ref a0), .val (.ref a1)] []) := by first | (simp [entryFrame, mkF, argsToLocals, Value.category]; done) | rfl
def Q2e (Z : State) (a0 : Addr) (a1 : Addr) (ka : ClassId) (d : Value) (h0 : Heap) (n0 : Nat) (v : Option Value) (h : Heap) (L : List Loc) : Prop := v = none ∧ Fr n0 L ∧ Keep h0 h [a0] ∧ own_Str Z h a0 []
set_option maxRecDepth 65536 in
set_option maxHeartbeats 40000000 in
theorem rm2e (l : Launch) (Z : State) (aa : Array Value) (hw : ∀ d ∈ tables_1, d.before aa Z = true) (hEL : EW Z aa consts_1) (ws : List Jvm.Cond) (a0 : Addr) (a1 : Addr) (ka : ClassId) (d : Value) (h0 : Heap) (n0 : Nat) (Z0 : n0 ≤ h0.size) (gn : n0 ≤ a0) (E0 : Exa Z h0 a0 "java/lang/String") (F_value : Fld Z h0 a0 "java/lang/String" "value" "[B" .null) (F_coder : Fld Z h0 a0 "java/lang/String" "coder" "B" (.int (0 : Int32))) (V0 : Arv Z h0 a1 ka .char (0 : Int32) [] d) :
    MetFree l (⟨"java/lang/String", "<init>", "([C)V"⟩ : MethodName) (head1 (Jvm.Cond.code (⟨"java/lang/String", "<init>", "([C)V"⟩ : MethodName) jdk_42_method_3_code 2 none :: ws) ({ frames := 2, cells := 4, slots := 8, locals := 29 } : Room)) (fun a U => a = #[(.ref a0), (.ref a1)] ∧ Z.Warmed39 U.vm ∧ U.heap = h0 ∧ CHv Z consts_1 U.vm h0) (fun _ _ _ _ _ => True) (fun _ U o U' => ∃ v L, o = .returned v ∧ Q2e Z a0 a1 ka d h0 n0 v U'.heap L ∧ CHr Z consts_1 U.vm U.heap U'.vm U'.heap ∧ ReturnedEndW U o U' L ({ frames := 2, cells := 4, slots := 8, locals := 29 } : Room).cells ({ frames := 2, cells := 4, slots := 8, locals := 29 } : Room).slots) := by
  refine MetFree.of_bodySF (plainFor_of_name pn_java_lang_String) hisR ?_
  intro p e s m args below meth c s₁ Bd hml0 hP hK
  obtain ⟨rfl, hZ, hh, hCH⟩ := hP
  have hx := Bd.exec
  have hby := Bd.bytes
  have hml : c.maxLocals = 2 := hml0
  have hown : s.vm.findClass "java/lang/String" = some m.cls := findClass_of_methodNamed Bd.named
  have hnm := (name_of_methodNamed Bd.named Bd.method).1
  have X0 : Stand p l e ({ frames := 2, cells := 4, slots := 8, locals := 29 } : Room) (s.setVm s.vm) m #[(.ref a0), (.ref a1)] below meth c s₁ [] 0 0 := (Stand.of_body Bd : Stand p l e ({ frames := 2, cells := 4, slots := 8, locals := 29 } : Room) s m #[(.ref a0), (.ref a1)] below meth c s₁ [] 0 0)
  have hS0 : s.Since s.vm h0.size := (State.WarmedH.refl s).since _
  have hk0 : h0.size ≤ h0.size := Nat.le_refl _
  have CH0 : CHr Z consts_1 s.vm h0 s.vm h0 := CHr.refl hCH
  have e0 : s₁.heap = h0 := by rw [← hh, Bd.state]; rfl
  have N0 := Fr.nil n0
  obtain ⟨G0, hG0⟩ : ∃ G, G = s₁.setTop (entryFrame m #[(.ref a0), (.ref a1)] 2) := ⟨_, rfl⟩
  have K0 : ∀ t, Steps p.tables e below (s₁.setTop (mkF m 0 #[.val (.ref a0), .val (.ref a1)] [])) t → Steps p.tables e below G0 t := fun t k => by rw [hG0]; exact castTop (ef_rm2e m a0 a1) k
  have K1 : ∀ t, Steps p.tables e below (s₁.setTop (mkF m 4 #[.val (.ref a0), .val (.ref a1)] [(.ref a1), (.int (0 : Int32)), (.ref a1), (.ref a0)])) t → Steps p.tables e below G0 t := by
    intro t kt
    refine K0 t ?_
    refine XS.aloadN X0.here hx rfl (hb hby d2_0) rfl rfl ?_
    show Steps p.tables e below (s₁.setTop (mkF m 1 #[.val (.ref a0), .val (.ref a1)] [(.ref a0)])) _
    refine XS.aloadN X0.here hx rfl (hb hby d2_1) rfl rfl ?_
    show Steps p.tables e below (s₁.setTop (mkF m 2 #[.val (.ref a0), .val (.ref a1)] [(.ref a1), (.ref a0)])) _
    refine XS.iconst X0.here hx rfl (hb hby d2_2) ?_
    show Steps p.tables e below (s₁.setTop (mkF m 3 #[.val (.ref a0), .val (.ref a1)] [(.int (0 : Int32)), (.ref a1), (.ref a0)])) _
    refine XS.aloadN X0.here hx rfl (hb hby d2_3) rfl rfl ?_
    show Steps p.tables e below (s₁.setTop (mkF m 4 #[.val (.ref a0), .val (.ref a1)] [(.ref a1), (.int (0 : Int32)), (.ref a1), (.ref a0)])) _
    exact kt
  obtain ⟨cl2, Ar2, qq2, S2, M2, H2, GG2⟩ := id V0
  have K3 : ∀ t, Steps p.tables e below (s₁.setTop (mkF m 6 #[.val (.ref a0), .val (.ref a1)] [.null, (.int (0 : Int32)), (.int (0 : Int32)), (.ref a1), (.ref a0)])) t → Steps p.tables e below G0 t := by
    intro t kt
    refine K1 t ?_
    refine X0.arraylength hx (by rw [e0]; exact (Ar2).1) (State.isArrayOf_alike hZ.alike (Ar2).2.1) (g := (mkF m 4 #[.val (.ref a0), .val (.ref a1)] [(.ref a1), (.int (0 : Int32)), (.ref a1), (.ref a0)])) rfl rfl (hb hby d2_4) _ ?_
    rw [len_of S2 M2]
    show Steps p.tables e below (s₁.setTop (mkF m 5 #[.val (.ref a0), .val (.ref a1)] [(.int (0 : Int32)), (.int (0 : Int32)), (.ref a1), (.ref a0)])) _
    refine XS.aconstNull X0.here hx rfl (hb hby d2_5) ?_
    show Steps p.tables e below (s₁.setTop (mkF m 6 #[.val (.ref a0), .val (.ref a1)] [.null, (.int (0 : Int32)), (.int (0 : Int32)), (.ref a1), (.ref a0)])) _
    exact kt
  obtain ⟨v4, _, ⟨T4, L4, k4, n4⟩, -, Xq4, S24, g24, ⟨Lc4, hQ4, l4, y4, z4, CR4⟩, st4⟩ := X0.specialBackS hx (y := (⟨"java/lang/String", "<init>", "([CIILjava/lang/Void;)V"⟩ : MethodName)) rfl hown (mvT hZ (hw _ (List.mem_of_getElem? (i := 14) rfl))) (mvT hZ (hw _ (List.mem_of_getElem? (i := 15) rfl))) (mvT hZ (hw _ (List.mem_of_getElem? (i := 17) rfl))) (by decide) (backOfSH (W := 0) (rm3e l Z aa hw hEL [] a0 a1  h0 n0 Z0 gn E0 F_value F_coder) hZ (hw _ (List.mem_of_getElem? (i := 17) rfl)) (hw _ (List.mem_of_getElem? (i := 9) rfl)) (by decide) (by decide) hEL CH0.1) (g := (mkF m 6 #[.val (.ref a0), .val (.ref a1)] [.null, (.int (0 : Int32)), (.int (0 : Int32)), (.ref a1), (.ref a0)])) rfl (by rw [hml]; rfl) (Steps.refl _) (a := a0) (argsL := [(.ref a1), (.int (0 : Int32)), (.int (0 : Int32)), .null]) (rest := []) (lenOf pd_P_CIILjava_lang_Void_QV rfl) rfl (by show 2 * 0 + _ ≤ _; exact Nat.le_of_eq rfl) (hb hby d2_6) (fun _ _ => ⟨rfl, e0, (by decide : 0 + 4 ≤ _), (by decide : 0 + 8 ≤ _)⟩)
  dsimp only [Pt.U, Pt.locs, Pt.cells, Pt.slots] at Xq4 S24 g24 l4 y4 z4 st4 hQ4 CR4
  subst l4 y4 z4
  obtain ⟨X4, hS4, hZ4, hown4⟩ := rebS hS0 (show _ ≤ s₁.heap.size by rw [e0]; exact hk0) Xq4 S24 g24 hZ hown
  have hk4 : T4.heap.size ≤ T4.heap.size := Nat.le_refl _
  have CH4 := CH0.trans CR4
  obtain ⟨rfl, N4q, KV4, SS4⟩ := hQ4
  have N4 := Fr.app N0 N4q
  have K4 : ∀ t, Steps p.tables e below (T4.setTop (mkF m 9 #[.val (.ref a0), .val (.ref a1)] [])) t → Steps p.tables e below G0 t := fun t kt => K3 t (st4.trans kt)
  have Z4 : n0 ≤ T4.heap.size := Nat.le_trans Z0 KV4.1
  obtain ⟨fs, hr, hrun, hended, hREW⟩ := X4.leaveW hS4 (by rw [(rfl : T4.heap = _)]; exact hk4) (v := none) (fun _ => rfl)
  have CHE := CH4.trans (CHv.at X4 hZ4 hEL CH4.1)
  refine ⟨_, _, ?_, hrun, hended, _, _, rfl, ?_, ?_, hREW.1, hREW.2.1, hREW.2.2.1, hREW.2.2.2.mono (by decide) (by decide)⟩
  · rw [← hG0]
    refine K4 _ ?_
    exact X4.returnOut hx Bd.returns (hb hby d2_9) hr
  · show Q2e Z a0 a1 ka d h0 n0 _ T4.heap _
    exact ⟨rfl, N4, KV4, SS4⟩
  · rw [hh]
    show CHr Z consts_1 s.vm h0 T4.vm T4.heap
    exact CHE
theorem d8_0 : decode method_3_code 0 = .ok (.iload_n 0, 1) := by decide +kernel
theorem d8_1 : decode method_3_code 1 = .ok (.sipush 255, 3) := by decide +kernel
theorem d8_4 : decode method_3_code 4 = .ok (.iand, 1) := by decide +kernel
theorem d8_5 : decode method_3_code 5 = .ok (.i2c, 1) := by decide +kernel
theorem d8_6 : decode method_3_code 6 = .ok (.istore_n 2, 1) := by decide +kernel
theorem d8_7 : decode method_3_code 7 = .ok (.iload_n 0, 1) := by decide +kernel
theorem d8_8 : decode method_3_code 8 = .ok (.bipush 8, 2) := by decide +kernel
theorem d8_10 : decode method_3_code 10 = .ok (.iushr, 1) := by decide +kernel
theorem d8_11 : decode method_3_code 11 = .ok (.sipush 255, 3) := by decide +kernel
theorem d8_14 : decode method_3_code 14 = .ok (.iand, 1) := by decide +kernel
theorem d8_15 : decode method_3_code 15 = .ok (.i2c, 1) := by decide +kernel
theorem d8_16 : decode method_3_code 16 = .ok (.istore_n 3, 1) := by decide +kernel
theorem d8_17 : decode method_3_code 17 = .ok (.iload_n 1, 1) := by decide +kernel
theorem d8_18 : decode method_3_code 18 = .ok (.ifCond .ne 14, 3) := by decide +kernel
theorem d8_21 : decode method_3_code 21 = .ok (.new 7, 3) := by decide +kernel
theorem d8_24 : decode method_3_code 24 = .ok (.dup, 1) := by decide +kernel
theorem d8_25 : decode method_3_code 25 = .ok (.iconst 0, 1) := by decide +kernel
theorem d8_26 : decode method_3_code 26 = .ok (.newarray .char, 2) := by decide +kernel
theorem d8_28 : decode method_3_code 28 = .ok (.invokespecial 9, 3) := by decide +kernel
theorem d8_31 : decode method_3_code 31 = .ok (.areturn, 1) := by decide +kernel
theorem d8_32 : decode method_3_code 32 = .ok (.iload_n 1, 1) := by decide +kernel
theorem d8_33 : decode method_3_code 33 = .ok (.iconst 1, 1) := by decide +kernel
theorem d8_34 : decode method_3_code 34 = .ok (.if_icmp .ne 18, 3) := by decide +kernel
theorem d8_37 : decode method_3_code 37 = .ok (.new 7, 3) := by decide +kernel
theorem d8_40 : decode method_3_code 40 = .ok (.dup, 1) := by decide +kernel
theorem d8_41 : decode method_3_code 41 = .ok (.iconst 1, 1) := by decide +kernel
theorem d8_42 : decode method_3_code 42 = .ok (.newarray .char, 2) := by decide +kernel
theorem d8_44 : decode method_3_code 44 = .ok (.dup, 1) := by decide +kernel
theorem d8_45 : decode method_3_code 45 = .ok (.iconst 0, 1) := by decide +kernel
theorem d8_46 : decode method_3_code 46 = .ok (.iload_n 2, 1) := by decide +kernel
theorem d8_47 : decode method_3_code 47 = .ok (.castore, 1) := by decide +kernel
theorem d8_48 : decode method_3_code 48 = .ok (.invokespecial 9, 3) := by decide +kernel
theorem d8_51 : decode method_3_code 51 = .ok (.areturn, 1) := by decide +kernel
theorem d8_52 : decode method_3_code 52 = .ok (.new 7, 3) := by decide +kernel
theorem d8_55 : decode method_3_code 55 = .ok (.dup, 1) := by decide +kernel
theorem d8_56 : decode method_3_code 56 = .ok (.iconst 2, 1) := by decide +kernel
theorem d8_57 : decode method_3_code 57 = .ok (.newarray .char, 2) := by decide +kernel
theorem d8_59 : decode method_3_code 59 = .ok (.dup, 1) := by decide +kernel
theorem d8_60 : decode method_3_code 60 = .ok (.iconst 0, 1) := by decide +kernel
theorem d8_61 : decode method_3_code 61 = .ok (.iload_n 2, 1) := by decide +kernel
theorem d8_62 : decode method_3_code 62 = .ok (.castore, 1) := by decide +kernel
theorem d8_63 : decode method_3_code 63 = .ok (.dup, 1) := by decide +kernel
theorem d8_64 : decode method_3_code 64 = .ok (.iconst 1, 1) := by decide +kernel
theorem d8_65 : decode method_3_code 65 = .ok (.iload_n 3, 1) := by decide +kernel
theorem d8_66 : decode method_3_code 66 = .ok (.castore, 1) := by decide +kernel
theorem d8_67 : decode method_3_code 67 = .ok (.invokespecial 9, 3) := by decide +kernel
theorem d8_70 : decode method_3_code 70 = .ok (.areturn, 1) := by decide +kernel
theorem ef_rm8 (m : MethodId) (p0 : Int32) (p1 : Int32) : entryFrame m #[(.int p0), (.int p1)] 4 = (mkF m 0 #[.val (.int p0), .val (.int p1), .unset, .unset] []) := by first | (simp [entryFrame, mkF, argsToLocals, Value.category]; done) | rfl
def Q8 (Z : State) (p0 : Int32) (p1 : Int32) (G1 : Int32) (h0 : Heap) (n0 : Nat) (v : Option Value) (h : Heap) (L : List Loc) : Prop := ∃ r : Addr, v = some (.ref r) ∧ Fr n0 L ∧ Keep h0 h [] ∧ own_Str Z h r (own_str p0 p1)
set_option maxRecDepth 65536 in
set_option maxHeartbeats 40000000 in
theorem rm8 (l : Launch) (Z : State) (aa : Array Value) (hw : ∀ d ∈ tables_1, d.before aa Z = true) (hEL : EW Z aa consts_1) (ws : List Jvm.Cond) (p0 : Int32) (p1 : Int32) (G1 : Int32) (h0 : Heap) (n0 : Nat) (Z0 : n0 ≤ h0.size) (O2 : Sta Z Z.heap "java/lang/String" "COMPACT_STRINGS" "Z" (.int G1)) (P5 : ¬ (G1 = (0 : Int32))) (HO : Old Z n0 h0) :
    MetFree l (⟨"com/example/lichen/lichen/model/PolicyIdentifierEqualsPinLaw", "str", "(II)Ljava/lang/String;"⟩ : MethodName) (head1 (Jvm.Cond.code (⟨"com/example/lichen/lichen/model/PolicyIdentifierEqualsPinLaw", "str", "(II)Ljava/lang/String;"⟩ : MethodName) method_3_code 4 (some (.object "java/lang/String")) :: ws) ({ frames := 4, cells := 6, slots := 12, locals := 66 } : Room)) (fun a U => a = #[(.int p0), (.int p1)] ∧ Z.Warmed39 U.vm ∧ U.heap = h0 ∧ CHv Z consts_1 U.vm h0) (fun _ _ _ _ _ => True) (fun _ U o U' => ∃ v L, o = .returned v ∧ Q8 Z p0 p1 G1 h0 n0 v U'.heap L ∧ CHr Z consts_1 U.vm U.heap U'.vm U'.heap ∧ ReturnedEndW U o U' L ({ frames := 4, cells := 6, slots := 12, locals := 66 } : Room).cells ({ frames := 4, cells := 6, slots := 12, locals := 66 } : Room).slots) := by
  refine MetFree.of_bodySF (plainFor_of_name pn_com_example_lichen_lichen_model_PolicyIdentifierEqualsPinLaw) hisR ?_
  intro p e s m args below meth c s₁ Bd hml0 hP hK
  obtain ⟨rfl, hZ, hh, hCH⟩ := hP
  have hx := Bd.exec
  have hby := Bd.bytes
  have hml : c.maxLocals = 4 := hml0
  have hown : s.vm.findClass "com/example/lichen/lichen/model/PolicyIdentifierEqualsPinLaw" = some m.cls := findClass_of_methodNamed Bd.named
  have hnm := (name_of_methodNamed Bd.named Bd.method).1
  have X0 : Stand p l e ({ frames := 4, cells := 6, slots := 12, locals := 66 } : Room) (s.setVm s.vm) m #[(.int p0), (.int p1)] below meth c s₁ [] 0 0 := (Stand.of_body Bd : Stand p l e ({ frames := 4, cells := 6, slots := 12, locals := 66 } : Room) s m #[(.int p0), (.int p1)] below meth c s₁ [] 0 0)
  have hS0 : s.Since s.vm h0.size := (State.WarmedH.refl s).since _
  have hk0 : h0.size ≤ h0.size := Nat.le_refl _
  have CH0 : CHr Z consts_1 s.vm h0 s.vm h0 := CHr.refl hCH
  have e0 : s₁.heap = h0 := by rw [← hh, Bd.state]; rfl
  have N0 := Fr.nil n0
  obtain ⟨G0, hG0⟩ : ∃ G, G = s₁.setTop (entryFrame m #[(.int p0), (.int p1)] 4) := ⟨_, rfl⟩
  have K0 : ∀ t, Steps p.tables e below (s₁.setTop (mkF m 0 #[.val (.int p0), .val (.int p1), .unset, .unset] [])) t → Steps p.tables e below G0 t := fun t k => by rw [hG0]; exact castTop (ef_rm8 m p0 p1) k
  have K1 : ∀ t, Steps p.tables e below (s₁.setTop (mkF m 18 #[.val (.int p0), .val (.int p1), .val (.int ((p0 &&& (255 : Int32)).toUInt32.toUInt16.toUInt32.toInt32)), .val (.int ((((p0.toUInt32 >>> ((8 : Int32) &&& 31).toUInt32).toInt32) &&& (255 : Int32)).toUInt32.toUInt16.toUInt32.toInt32))] [(.int p1)])) t → Steps p.tables e below G0 t := by
    intro t kt
    refine K0 t ?_
    refine XS.iloadN X0.here hx rfl (hb hby d8_0) rfl ?_
    show Steps p.tables e below (s₁.setTop (mkF m 1 #[.val (.int p0), .val (.int p1), .unset, .unset] [(.int p0)])) _
    refine XS.sipush X0.here hx rfl (hb hby d8_1) ?_
    show Steps p.tables e below (s₁.setTop (mkF m 4 #[.val (.int p0), .val (.int p1), .unset, .unset] [(.int (255 : Int32)), (.int p0)])) _
    refine XS.iand X0.here hx rfl (hb hby d8_4) rfl ?_
    show Steps p.tables e below (s₁.setTop (mkF m 5 #[.val (.int p0), .val (.int p1), .unset, .unset] [(.int (p0 &&& (255 : Int32)))])) _
    refine XS.i2c X0.here hx rfl (hb hby d8_5) rfl ?_
    show Steps p.tables e below (s₁.setTop (mkF m 6 #[.val (.int p0), .val (.int p1), .unset, .unset] [(.int ((p0 &&& (255 : Int32)).toUInt32.toUInt16.toUInt32.toInt32))])) _
    refine XS.istoreN X0.here hx rfl (hb hby d8_6) rfl (l' := #[.val (.int p0), .val (.int p1), .val (.int ((p0 &&& (255 : Int32)).toUInt32.toUInt16.toUInt32.toInt32)), .unset]) rfl ?_
    show Steps p.tables e below (s₁.setTop (mkF m 7 #[.val (.int p0), .val (.int p1), .val (.int ((p0 &&& (255 : Int32)).toUInt32.toUInt16.toUInt32.toInt32)), .unset] [])) _
    refine XS.iloadN X0.here hx rfl (hb hby d8_7) rfl ?_
    show Steps p.tables e below (s₁.setTop (mkF m 8 #[.val (.int p0), .val (.int p1), .val (.int ((p0 &&& (255 : Int32)).toUInt32.toUInt16.toUInt32.toInt32)), .unset] [(.int p0)])) _
    refine XS.bipush X0.here hx rfl (hb hby d8_8) ?_
    show Steps p.tables e below (s₁.setTop (mkF m 10 #[.val (.int p0), .val (.int p1), .val (.int ((p0 &&& (255 : Int32)).toUInt32.toUInt16.toUInt32.toInt32)), .unset] [(.int (8 : Int32)), (.int p0)])) _
    refine XS.iushr X0.here hx rfl (hb hby d8_10) rfl ?_
    show Steps p.tables e below (s₁.setTop (mkF m 11 #[.val (.int p0), .val (.int p1), .val (.int ((p0 &&& (255 : Int32)).toUInt32.toUInt16.toUInt32.toInt32)), .unset] [(.int ((p0.toUInt32 >>> ((8 : Int32) &&& 31).toUInt32).toInt32))])) _
    refine XS.sipush X0.here hx rfl (hb hby d8_11) ?_
    show Steps p.tables e below (s₁.setTop (mkF m 14 #[.val (.int p0), .val (.int p1), .val (.int ((p0 &&& (255 : Int32)).toUInt32.toUInt16.toUInt32.toInt32)), .unset] [(.int (255 : Int32)), (.int ((p0.toUInt32 >>> ((8 : Int32) &&& 31).toUInt32).toInt32))])) _
    refine XS.iand X0.here hx rfl (hb hby d8_14) rfl ?_
    show Steps p.tables e below (s₁.setTop (mkF m 15 #[.val (.int p0), .val (.int p1), .val (.int ((p0 &&& (255 : Int32)).toUInt32.toUInt16.toUInt32.toInt32)), .unset] [(.int (((p0.toUInt32 >>> ((8 : Int32) &&& 31).toUInt32).toInt32) &&& (255 : Int32)))])) _
    refine XS.i2c X0.here hx rfl (hb hby d8_15) rfl ?_
    show Steps p.tables e below (s₁.setTop (mkF m 16 #[.val (.int p0), .val (.int p1), .val (.int ((p0 &&& (255 : Int32)).toUInt32.toUInt16.toUInt32.toInt32)), .unset] [(.int ((((p0.toUInt32 >>> ((8 : Int32) &&& 31).toUInt32).toInt32) &&& (255 : Int32)).toUInt32.toUInt16.toUInt32.toInt32))])) _
    refine XS.istoreN X0.here hx rfl (hb hby d8_16) rfl (l' := #[.val (.int p0), .val (.int p1), .val (.int ((p0 &&& (255 : Int32)).toUInt32.toUInt16.toUInt32.toInt32)), .val (.int ((((p0.toUInt32 >>> ((8 : Int32) &&& 31).toUInt32).toInt32) &&& (255 : Int32)).toUInt32.toUInt16.toUInt32.toInt32))]) rfl ?_
    show Steps p.tables e below (s₁.setTop (mkF m 17 #[.val (.int p0), .val (.int p1), .val (.int ((p0 &&& (255 : Int32)).toUInt32.toUInt16.toUInt32.toInt32)), .val (.int ((((p0.toUInt32 >>> ((8 : Int32) &&& 31).toUInt32).toInt32) &&& (255 : Int32)).toUInt32.toUInt16.toUInt32.toInt32))] [])) _
    refine XS.iloadN X0.here hx rfl (hb hby d8_17) rfl ?_
    show Steps p.tables e below (s₁.setTop (mkF m 18 #[.val (.int p0), .val (.int p1), .val (.int ((p0 &&& (255 : Int32)).toUInt32.toUInt16.toUInt32.toInt32)), .val (.int ((((p0.toUInt32 >>> ((8 : Int32) &&& 31).toUInt32).toInt32) &&& (255 : Int32)).toUInt32.toUInt16.toUInt32.toInt32))] [(.int p1)])) _
    exact kt
  by_cases hc2 : p1 = (0 : Int32)
  ·
    have K3 : ∀ t, Steps p.tables e below (s₁.setTop (mkF m 21 #[.val (.int p0), .val (.int p1), .val (.int ((p0 &&& (255 : Int32)).toUInt32.toUInt16.toUInt32.toInt32)), .val (.int ((((p0.toUInt32 >>> ((8 : Int32) &&& 31).toUInt32).toInt32) &&& (255 : Int32)).toUInt32.toUInt16.toUInt32.toInt32))] [])) t → Steps p.tables e below G0 t := by
      intro t kt
      refine K1 t ?_
      refine XS.ifNo X0.here hx rfl (hb hby d8_18) rfl ((if0 _ _).trans (teq hc2).2) ?_
      show Steps p.tables e below (s₁.setTop (mkF m 21 #[.val (.int p0), .val (.int p1), .val (.int ((p0 &&& (255 : Int32)).toUInt32.toUInt16.toUInt32.toInt32)), .val (.int ((((p0.toUInt32 >>> ((8 : Int32) &&& 31).toUInt32).toInt32) &&& (255 : Int32)).toUInt32.toUInt16.toUInt32.toInt32))] [])) _
      exact kt
    obtain ⟨T4, h4, X4, e4, E4, A4, D4, -, st4⟩ := newO X0 hx hZ hown (hw _ (List.mem_of_getElem? (i := 7) rfl)) (hw _ (List.mem_of_getElem? (i := 8) rfl)) (hw _ (List.mem_of_getElem? (i := 9) rfl)) e0 (g := (mkF m 21 #[.val (.int p0), .val (.int p1), .val (.int ((p0 &&& (255 : Int32)).toUInt32.toUInt16.toUInt32.toInt32)), .val (.int ((((p0.toUInt32 >>> ((8 : Int32) &&& 31).toUInt32).toInt32) &&& (255 : Int32)).toUInt32.toUInt16.toUInt32.toInt32))] [])) rfl (hb hby d8_21) (by decide) (by decide)
    obtain ⟨b4, g4⟩ : ∃ z, z = h0.size := ⟨_, rfl⟩
    rw [← g4] at A4 D4 st4
    have gn4 : n0 ≤ b4 := Nat.le_trans Z0 (Nat.le_of_eq g4.symm)
    have Z4 : n0 ≤ h4.size := Nat.le_trans Z0 E4.1
    have K4 : ∀ t, Steps p.tables e below (T4.setTop (mkF m 24 #[.val (.int p0), .val (.int p1), .val (.int ((p0 &&& (255 : Int32)).toUInt32.toUInt16.toUInt32.toInt32)), .val (.int ((((p0.toUInt32 >>> ((8 : Int32) &&& 31).toUInt32).toInt32) &&& (255 : Int32)).toUInt32.toUInt16.toUInt32.toInt32))] [(.ref b4)])) t → Steps p.tables e below G0 t := fun t kt => K3 t (st4 _ kt)
    have F_coder_b4 := (D4 (Or.inr (hw _ (List.mem_of_getElem? (i := 34) rfl))) (ty := .byte) (by decide) : Fld Z h4 b4 "java/lang/String" "coder" "B" (.int (0 : Int32)))
    have F_value_b4 := (D4 (Or.inr (hw _ (List.mem_of_getElem? (i := 36) rfl))) (ty := (.array .byte)) (by decide) : Fld Z h4 b4 "java/lang/String" "value" "[B" .null)
    have K5 : ∀ t, Steps p.tables e below (T4.setTop (mkF m 26 #[.val (.int p0), .val (.int p1), .val (.int ((p0 &&& (255 : Int32)).toUInt32.toUInt16.toUInt32.toInt32)), .val (.int ((((p0.toUInt32 >>> ((8 : Int32) &&& 31).toUInt32).toInt32) &&& (255 : Int32)).toUInt32.toUInt16.toUInt32.toInt32))] [(.int (0 : Int32)), (.ref b4), (.ref b4)])) t → Steps p.tables e below G0 t := by
      intro t kt
      refine K4 t ?_
      refine XS.dup X4.here hx rfl (hb hby d8_24) rfl rfl ?_
      show Steps p.tables e below (T4.setTop (mkF m 25 #[.val (.int p0), .val (.int p1), .val (.int ((p0 &&& (255 : Int32)).toUInt32.toUInt16.toUInt32.toInt32)), .val (.int ((((p0.toUInt32 >>> ((8 : Int32) &&& 31).toUInt32).toInt32) &&& (255 : Int32)).toUInt32.toUInt16.toUInt32.toInt32))] [(.ref b4), (.ref b4)])) _
      refine XS.iconst X4.here hx rfl (hb hby d8_25) ?_
      show Steps p.tables e below (T4.setTop (mkF m 26 #[.val (.int p0), .val (.int p1), .val (.int ((p0 &&& (255 : Int32)).toUInt32.toUInt16.toUInt32.toInt32)), .val (.int ((((p0.toUInt32 >>> ((8 : Int32) &&& 31).toUInt32).toInt32) &&& (255 : Int32)).toUInt32.toUInt16.toUInt32.toInt32))] [(.int (0 : Int32)), (.ref b4), (.ref b4)])) _
      exact kt
    obtain ⟨T6, h6, k6, X6, e6, E6, A6, st6⟩ := newP X4 hx hZ (hw _ (List.mem_of_getElem? (i := 10) rfl)) e4 (g := (mkF m 26 #[.val (.int p0), .val (.int p1), .val (.int ((p0 &&& (255 : Int32)).toUInt32.toUInt16.toUInt32.toInt32)), .val (.int ((((p0.toUInt32 >>> ((8 : Int32) &&& 31).toUInt32).toInt32) &&& (255 : Int32)).toUInt32.toUInt16.toUInt32.toInt32))] [(.int (0 : Int32)), (.ref b4), (.ref b4)])) rfl (hb hby d8_26) rfl (by decide) (cap := 0) (by decide) (by decide) (by decide) (by decide)
    obtain ⟨b6, g6⟩ : ∃ z, z = h4.size := ⟨_, rfl⟩
    rw [← g6] at A6 st6
    have V6 := Arv.new A6 (by decide)
    have gn6 : n0 ≤ b6 := Nat.le_trans Z4 (Nat.le_of_eq g6.symm)
    have Z6 : n0 ≤ h6.size := Nat.le_trans Z4 E6.1
    have K6 : ∀ t, Steps p.tables e below (T6.setTop (mkF m 28 #[.val (.int p0), .val (.int p1), .val (.int ((p0 &&& (255 : Int32)).toUInt32.toUInt16.toUInt32.toInt32)), .val (.int ((((p0.toUInt32 >>> ((8 : Int32) &&& 31).toUInt32).toInt32) &&& (255 : Int32)).toUInt32.toUInt16.toUInt32.toInt32))] [(.ref b6), (.ref b4), (.ref b4)])) t → Steps p.tables e below G0 t := fun t kt => K5 t (st6 _ kt)
    have ne_b4_b6 : b4 ≠ b6 := Nat.ne_of_lt (Nat.lt_of_lt_of_le (A4).lt (Nat.le_of_eq g6.symm))
    have VL6 : Arv Z h6 b6 k6 .char (0 : Int32) [] (.int (0 : Int32)) := V6
    have f7 := (A4.ext E6)
    have f8 := (F_value_b4.ext E6)
    have f9 := (F_coder_b4.ext E6)
    have KQ10_0 := Keep.refl h0 []
    have sz10_4 := Nat.le_trans KQ10_0.1 (Nat.le_of_eq g4.symm)
    have KQ10_1 := KQ10_0.ext E4
    have sz10_6 := Nat.le_trans KQ10_1.1 (Nat.le_of_eq g6.symm)
    have KQ10_2 := KQ10_1.ext E6
    have CH11 := CH0.trans (CHr.keep KQ10_2 sf0 CH0.1)
    have f12 := (Nat.le_trans (Nat.le_trans hk0 E4.1) E6.1)
    obtain ⟨v13, _, ⟨T13, L13, k13, n13⟩, -, Xq13, S213, g213, ⟨Lc13, hQ13, l13, y13, z13, CR13⟩, st13⟩ := X6.specialBackS hx (y := (⟨"java/lang/String", "<init>", "([C)V"⟩ : MethodName)) rfl hown (mvT hZ (hw _ (List.mem_of_getElem? (i := 11) rfl))) (mvT hZ (hw _ (List.mem_of_getElem? (i := 12) rfl))) (mvT hZ (hw _ (List.mem_of_getElem? (i := 13) rfl))) (by decide) (backOfSH (W := 1) (rm2e l Z aa hw hEL [] (b4) (b6) _ _ h6 n0 Z6 gn4 f7 f8 f9 VL6) hZ (hw _ (List.mem_of_getElem? (i := 13) rfl)) (hw _ (List.mem_of_getElem? (i := 9) rfl)) (by decide) (by decide) hEL CH11.1) (g := (mkF m 28 #[.val (.int p0), .val (.int p1), .val (.int ((p0 &&& (255 : Int32)).toUInt32.toUInt16.toUInt32.toInt32)), .val (.int ((((p0.toUInt32 >>> ((8 : Int32) &&& 31).toUInt32).toInt32) &&& (255 : Int32)).toUInt32.toUInt16.toUInt32.toInt32))] [(.ref b6), (.ref b4), (.ref b4)])) rfl (by rw [hml]; rfl) (Steps.refl _) (a := b4) (argsL := [(.ref b6)]) (rest := [(.ref b4)]) (lenOf pd_P_CQV rfl) rfl (by show 2 * 0 + _ ≤ _; exact Nat.le_of_eq rfl) (hb hby d8_28) (fun _ _ => ⟨rfl, e6, (by decide : 2 + 4 ≤ _), (by decide : 4 + 8 ≤ _)⟩)
    dsimp only [Pt.U, Pt.locs, Pt.cells, Pt.slots] at Xq13 S213 g213 l13 y13 z13 st13 hQ13 CR13
    subst l13 y13 z13
    obtain ⟨X13, hS13, hZ13, hown13⟩ := rebS hS0 (show _ ≤ T6.heap.size by rw [e6]; exact f12) Xq13 S213 g213 hZ hown
    have hk13 : T13.heap.size ≤ T13.heap.size := Nat.le_refl _
    have CH13 := CH11.trans CR13
    obtain ⟨rfl, N13q, KV13, SS13⟩ := hQ13
    have N13 := Fr.app N0 N13q
    have K13 : ∀ t, Steps p.tables e below (T13.setTop (mkF m 31 #[.val (.int p0), .val (.int p1), .val (.int ((p0 &&& (255 : Int32)).toUInt32.toUInt16.toUInt32.toInt32)), .val (.int ((((p0.toUInt32 >>> ((8 : Int32) &&& 31).toUInt32).toInt32) &&& (255 : Int32)).toUInt32.toUInt16.toUInt32.toInt32))] [(.ref b4)])) t → Steps p.tables e below G0 t := fun t kt => K6 t (st13.trans kt)
    have Z13 : n0 ≤ T13.heap.size := Nat.le_trans Z6 KV13.1
    have EX13 := SS13.1
    have KQ14_0 := Keep.refl h0 []
    have sz14_4 := Nat.le_trans KQ14_0.1 (Nat.le_of_eq g4.symm)
    have KQ14_1 := KQ14_0.ext E4
    have sz14_6 := Nat.le_trans KQ14_1.1 (Nat.le_of_eq g6.symm)
    have KQ14_2 := KQ14_1.ext E6
    have KQ14_3 := KQ14_2.trans KV13 (fun x hx => by simp only [List.mem_cons, List.not_mem_nil, or_false] at hx; rcases hx with rfl <;> first | exact (Or.inr sz14_4))
    obtain ⟨fs, hr, hrun, hended, hREW⟩ := X13.leaveW hS13 (by rw [(rfl : T13.heap = _)]; exact hk13) (v := some (.ref b4)) (fun h => by rw [Bd.returns] at h; cases h)
    have CHE := CH13.trans (CHv.at X13 hZ13 hEL CH13.1)
    refine ⟨_, _, ?_, hrun, hended, _, _, rfl, ?_, ?_, hREW.1, hREW.2.1, hREW.2.2.1, hREW.2.2.2.mono (by decide) (by decide)⟩
    · rw [← hG0]
      refine K13 _ ?_
      exact retOut X13 hx (t := (.object "java/lang/String")) Bd.returns rfl (Or.inr (Or.inr (Or.inr (Or.inr ⟨rfl, rfl, rfl⟩)))) (hb hby d8_31) hr
    · show Q8 Z p0 p1 G1 h0 n0 _ T13.heap _
      exact ⟨_, rfl, N13, KQ14_3, by rw [own_str, if_pos hc2]; exact SS13⟩
    · rw [hh]
      show CHr Z consts_1 s.vm h0 T13.vm T13.heap
      exact CHE
  ·
    have K15 : ∀ t, Steps p.tables e below (s₁.setTop (mkF m 34 #[.val (.int p0), .val (.int p1), .val (.int ((p0 &&& (255 : Int32)).toUInt32.toUInt16.toUInt32.toInt32)), .val (.int ((((p0.toUInt32 >>> ((8 : Int32) &&& 31).toUInt32).toInt32) &&& (255 : Int32)).toUInt32.toUInt16.toUInt32.toInt32))] [(.int (1 : Int32)), (.int p1)])) t → Steps p.tables e below G0 t := by
      intro t kt
      refine K1 t ?_
      refine XS.ifYes X0.here hx rfl (pc0 := 18) (pc' := 32) rfl (hb hby d8_18) rfl ((if0 _ _).trans (feq hc2).2) (by decide) (by decide) ?_
      show Steps p.tables e below (s₁.setTop (mkF m 32 #[.val (.int p0), .val (.int p1), .val (.int ((p0 &&& (255 : Int32)).toUInt32.toUInt16.toUInt32.toInt32)), .val (.int ((((p0.toUInt32 >>> ((8 : Int32) &&& 31).toUInt32).toInt32) &&& (255 : Int32)).toUInt32.toUInt16.toUInt32.toInt32))] [])) _
      refine XS.iloadN X0.here hx rfl (hb hby d8_32) rfl ?_
      show Steps p.tables e below (s₁.setTop (mkF m 33 #[.val (.int p0), .val (.int p1), .val (.int ((p0 &&& (255 : Int32)).toUInt32.toUInt16.toUInt32.toInt32)), .val (.int ((((p0.toUInt32 >>> ((8 : Int32) &&& 31).toUInt32).toInt32) &&& (255 : Int32)).toUInt32.toUInt16.toUInt32.toInt32))] [(.int p1)])) _
      refine XS.iconst X0.here hx rfl (hb hby d8_33) ?_
      show Steps p.tables e below (s₁.setTop (mkF m 34 #[.val (.int p0), .val (.int p1), .val (.int ((p0 &&& (255 : Int32)).toUInt32.toUInt16.toUInt32.toInt32)), .val (.int ((((p0.toUInt32 >>> ((8 : Int32) &&& 31).toUInt32).toInt32) &&& (255 : Int32)).toUInt32.toUInt16.toUInt32.toInt32))] [(.int (1 : Int32)), (.int p1)])) _
      exact kt
    by_cases hc16 : p1 = (1 : Int32)
    ·
      have K17 : ∀ t, Steps p.tables e below (s₁.setTop (mkF m 37 #[.val (.int p0), .val (.int p1), .val (.int ((p0 &&& (255 : Int32)).toUInt32.toUInt16.toUInt32.toInt32)), .val (.int ((((p0.toUInt32 >>> ((8 : Int32) &&& 31).toUInt32).toInt32) &&& (255 : Int32)).toUInt32.toUInt16.toUInt32.toInt32))] [])) t → Steps p.tables e below G0 t := by
        intro t kt
        refine K15 t ?_
        refine XS.icmpNo X0.here hx rfl (hb hby d8_34) rfl (teq hc16).2 ?_
        show Steps p.tables e below (s₁.setTop (mkF m 37 #[.val (.int p0), .val (.int p1), .val (.int ((p0 &&& (255 : Int32)).toUInt32.toUInt16.toUInt32.toInt32)), .val (.int ((((p0.toUInt32 >>> ((8 : Int32) &&& 31).toUInt32).toInt32) &&& (255 : Int32)).toUInt32.toUInt16.toUInt32.toInt32))] [])) _
        exact kt
      obtain ⟨T18, h18, X18, e18, E18, A18, D18, -, st18⟩ := newO X0 hx hZ hown (hw _ (List.mem_of_getElem? (i := 7) rfl)) (hw _ (List.mem_of_getElem? (i := 8) rfl)) (hw _ (List.mem_of_getElem? (i := 9) rfl)) e0 (g := (mkF m 37 #[.val (.int p0), .val (.int p1), .val (.int ((p0 &&& (255 : Int32)).toUInt32.toUInt16.toUInt32.toInt32)), .val (.int ((((p0.toUInt32 >>> ((8 : Int32) &&& 31).toUInt32).toInt32) &&& (255 : Int32)).toUInt32.toUInt16.toUInt32.toInt32))] [])) rfl (hb hby d8_37) (by decide) (by decide)
      obtain ⟨b18, g18⟩ : ∃ z, z = h0.size := ⟨_, rfl⟩
      rw [← g18] at A18 D18 st18
      have gn18 : n0 ≤ b18 := Nat.le_trans Z0 (Nat.le_of_eq g18.symm)
      have Z18 : n0 ≤ h18.size := Nat.le_trans Z0 E18.1
      have K18 : ∀ t, Steps p.tables e below (T18.setTop (mkF m 40 #[.val (.int p0), .val (.int p1), .val (.int ((p0 &&& (255 : Int32)).toUInt32.toUInt16.toUInt32.toInt32)), .val (.int ((((p0.toUInt32 >>> ((8 : Int32) &&& 31).toUInt32).toInt32) &&& (255 : Int32)).toUInt32.toUInt16.toUInt32.toInt32))] [(.ref b18)])) t → Steps p.tables e below G0 t := fun t kt => K17 t (st18 _ kt)
      have F_coder_b18 := (D18 (Or.inr (hw _ (List.mem_of_getElem? (i := 34) rfl))) (ty := .byte) (by decide) : Fld Z h18 b18 "java/lang/String" "coder" "B" (.int (0 : Int32)))
      have F_value_b18 := (D18 (Or.inr (hw _ (List.mem_of_getElem? (i := 36) rfl))) (ty := (.array .byte)) (by decide) : Fld Z h18 b18 "java/lang/String" "value" "[B" .null)
      have K19 : ∀ t, Steps p.tables e below (T18.setTop (mkF m 42 #[.val (.int p0), .val (.int p1), .val (.int ((p0 &&& (255 : Int32)).toUInt32.toUInt16.toUInt32.toInt32)), .val (.int ((((p0.toUInt32 >>> ((8 : Int32) &&& 31).toUInt32).toInt32) &&& (255 : Int32)).toUInt32.toUInt16.toUInt32.toInt32))] [(.int (1 : Int32)), (.ref b18), (.ref b18)])) t → Steps p.tables e below G0 t := by
        intro t kt
        refine K18 t ?_
        refine XS.dup X18.here hx rfl (hb hby d8_40) rfl rfl ?_
        show Steps p.tables e below (T18.setTop (mkF m 41 #[.val (.int p0), .val (.int p1), .val (.int ((p0 &&& (255 : Int32)).toUInt32.toUInt16.toUInt32.toInt32)), .val (.int ((((p0.toUInt32 >>> ((8 : Int32) &&& 31).toUInt32).toInt32) &&& (255 : Int32)).toUInt32.toUInt16.toUInt32.toInt32))] [(.ref b18), (.ref b18)])) _
        refine XS.iconst X18.here hx rfl (hb hby d8_41) ?_
        show Steps p.tables e below (T18.setTop (mkF m 42 #[.val (.int p0), .val (.int p1), .val (.int ((p0 &&& (255 : Int32)).toUInt32.toUInt16.toUInt32.toInt32)), .val (.int ((((p0.toUInt32 >>> ((8 : Int32) &&& 31).toUInt32).toInt32) &&& (255 : Int32)).toUInt32.toUInt16.toUInt32.toInt32))] [(.int (1 : Int32)), (.ref b18), (.ref b18)])) _
        exact kt
      obtain ⟨T20, h20, k20, X20, e20, E20, A20, st20⟩ := newP X18 hx hZ (hw _ (List.mem_of_getElem? (i := 10) rfl)) e18 (g := (mkF m 42 #[.val (.int p0), .val (.int p1), .val (.int ((p0 &&& (255 : Int32)).toUInt32.toUInt16.toUInt32.toInt32)), .val (.int ((((p0.toUInt32 >>> ((8 : Int32) &&& 31).toUInt32).toInt32) &&& (255 : Int32)).toUInt32.toUInt16.toUInt32.toInt32))] [(.int (1 : Int32)), (.ref b18), (.ref b18)])) rfl (hb hby d8_42) rfl (by decide) (cap := 1) (by decide) (by decide) (by decide) (by decide)
      obtain ⟨b20, g20⟩ : ∃ z, z = h18.size := ⟨_, rfl⟩
      rw [← g20] at A20 st20
      have V20 := Arv.new A20 (by decide)
      have gn20 : n0 ≤ b20 := Nat.le_trans Z18 (Nat.le_of_eq g20.symm)
      have Z20 : n0 ≤ h20.size := Nat.le_trans Z18 E20.1
      have K20 : ∀ t, Steps p.tables e below (T20.setTop (mkF m 44 #[.val (.int p0), .val (.int p1), .val (.int ((p0 &&& (255 : Int32)).toUInt32.toUInt16.toUInt32.toInt32)), .val (.int ((((p0.toUInt32 >>> ((8 : Int32) &&& 31).toUInt32).toInt32) &&& (255 : Int32)).toUInt32.toUInt16.toUInt32.toInt32))] [(.ref b20), (.ref b18), (.ref b18)])) t → Steps p.tables e below G0 t := fun t kt => K19 t (st20 _ kt)
      have ne_b18_b20 : b18 ≠ b20 := Nat.ne_of_lt (Nat.lt_of_lt_of_le (A18).lt (Nat.le_of_eq g20.symm))
      have VL20 : Arv Z h20 b20 k20 .char (1 : Int32) [(.int (0 : Int32))] (.int (0 : Int32)) := V20.pad (pad_rep [] (.int (0 : Int32)) 1)
      have K21 : ∀ t, Steps p.tables e below (T20.setTop (mkF m 47 #[.val (.int p0), .val (.int p1), .val (.int ((p0 &&& (255 : Int32)).toUInt32.toUInt16.toUInt32.toInt32)), .val (.int ((((p0.toUInt32 >>> ((8 : Int32) &&& 31).toUInt32).toInt32) &&& (255 : Int32)).toUInt32.toUInt16.toUInt32.toInt32))] [(.int ((p0 &&& (255 : Int32)).toUInt32.toUInt16.toUInt32.toInt32)), (.int (0 : Int32)), (.ref b20), (.ref b20), (.ref b18), (.ref b18)])) t → Steps p.tables e below G0 t := by
        intro t kt
        refine K20 t ?_
        refine XS.dup X20.here hx rfl (hb hby d8_44) rfl rfl ?_
        show Steps p.tables e below (T20.setTop (mkF m 45 #[.val (.int p0), .val (.int p1), .val (.int ((p0 &&& (255 : Int32)).toUInt32.toUInt16.toUInt32.toInt32)), .val (.int ((((p0.toUInt32 >>> ((8 : Int32) &&& 31).toUInt32).toInt32) &&& (255 : Int32)).toUInt32.toUInt16.toUInt32.toInt32))] [(.ref b20), (.ref b20), (.ref b18), (.ref b18)])) _
        refine XS.iconst X20.here hx rfl (hb hby d8_45) ?_
        show Steps p.tables e below (T20.setTop (mkF m 46 #[.val (.int p0), .val (.int p1), .val (.int ((p0 &&& (255 : Int32)).toUInt32.toUInt16.toUInt32.toInt32)), .val (.int ((((p0.toUInt32 >>> ((8 : Int32) &&& 31).toUInt32).toInt32) &&& (255 : Int32)).toUInt32.toUInt16.toUInt32.toInt32))] [(.int (0 : Int32)), (.ref b20), (.ref b20), (.ref b18), (.ref b18)])) _
        refine XS.iloadN X20.here hx rfl (hb hby d8_46) rfl ?_
        show Steps p.tables e below (T20.setTop (mkF m 47 #[.val (.int p0), .val (.int p1), .val (.int ((p0 &&& (255 : Int32)).toUInt32.toUInt16.toUInt32.toInt32)), .val (.int ((((p0.toUInt32 >>> ((8 : Int32) &&& 31).toUInt32).toInt32) &&& (255 : Int32)).toUInt32.toUInt16.toUInt32.toInt32))] [(.int ((p0 &&& (255 : Int32)).toUInt32.toUInt16.toUInt32.toInt32)), (.int (0 : Int32)), (.ref b20), (.ref b20), (.ref b18), (.ref b18)])) _
        exact kt
      obtain ⟨cl22, Ar22, qq22, S22, M22, H22, GG22⟩ := id VL20
      have hin22 : ¬ ((0 : Int32) < 0 ∨ cl22.slots.size ≤ ((0 : Int32)).toNatClampNeg) := inb_of S22 ⟨by decide, by decide⟩
      obtain ⟨T23, h23, X23, e23, W23, st23⟩ := stC X20 hx hZ e20 Ar22 (j := (0 : Int32)) hin22 (g := (mkF m 47 #[.val (.int p0), .val (.int p1), .val (.int ((p0 &&& (255 : Int32)).toUInt32.toUInt16.toUInt32.toInt32)), .val (.int ((((p0.toUInt32 >>> ((8 : Int32) &&& 31).toUInt32).toInt32) &&& (255 : Int32)).toUInt32.toUInt16.toUInt32.toInt32))] [(.int ((p0 &&& (255 : Int32)).toUInt32.toUInt16.toUInt32.toInt32)), (.int (0 : Int32)), (.ref b20), (.ref b20), (.ref b18), (.ref b18)])) rfl rfl (hb hby d8_47)
      have K23 : ∀ t, Steps p.tables e below (T23.setTop (mkF m 48 #[.val (.int p0), .val (.int p1), .val (.int ((p0 &&& (255 : Int32)).toUInt32.toUInt16.toUInt32.toInt32)), .val (.int ((((p0.toUInt32 >>> ((8 : Int32) &&& 31).toUInt32).toInt32) &&& (255 : Int32)).toUInt32.toUInt16.toUInt32.toInt32))] [(.ref b20), (.ref b18), (.ref b18)])) t → Steps p.tables e below G0 t := fun t kt => K21 t (st23 _ kt)
      have Z23 : n0 ≤ h23.size := Nat.le_trans Z20 (Keep.of_wr W23).1
      have VL23 : Arv Z h23 b20 k20 .char (1 : Int32) [(.int (nar .char ((p0 &&& (255 : Int32)).toUInt32.toUInt16.toUInt32.toInt32)))] (.int (0 : Int32)) := Arv.set Ar22 qq22 S22 M22 H22 GG22 (fits_nar_char _) W23 0 rfl (Nat.le_of_ble_eq_true rfl)
      have N23 := Fr.snoc X23 N0 gn20
      have hpc : ∀ c ∈ ([own_c p0] : List Int32), ¬ c < 0 ∧ ¬ (255 : Int32) < c := by
        intro c hc
        simp only [List.mem_cons, List.not_mem_nil, or_false] at hc
        rcases hc with rfl
        all_goals exact own_cb _
      have f24 := ((A18.ext E20).wr W23)
      have f25 := ((F_value_b18.ext E20).other W23 (Or.inl ne_b18_b20))
      have f26 := ((F_coder_b18.ext E20).other W23 (Or.inl ne_b18_b20))
      have f27 := (((HO.ext E18).ext E20).wr W23 gn20)
      obtain ⟨v28, _, ⟨T28, L28, k28, n28⟩, -, X28, ⟨Lc28, hQ28, l28, y28, z28⟩, st28⟩ := X23.specialBack hx (y := (⟨"java/lang/String", "<init>", "([C)V"⟩ : MethodName)) rfl hown (mvT hZ (hw _ (List.mem_of_getElem? (i := 11) rfl))) (mvT hZ (hw _ (List.mem_of_getElem? (i := 12) rfl))) (mvT hZ (hw _ (List.mem_of_getElem? (i := 13) rfl))) (by decide) (StrChars.Road.backV (W := 1) hZ (own_wsV hw) (kI := 4) (hw _ (List.mem_of_getElem? (i := 8) rfl)) (cs := [own_c p0]) (bs := ([own_c p0] : List Int32).map (fun c => c.toInt8.toInt32)) (n := 1) gn18 Z23 f24 f25 f26 VL23 (O2.ext f27.2) P5 rfl rfl (by decide) (by decide) hpc rfl (by decide) (by decide)) (g := (mkF m 48 #[.val (.int p0), .val (.int p1), .val (.int ((p0 &&& (255 : Int32)).toUInt32.toUInt16.toUInt32.toInt32)), .val (.int ((((p0.toUInt32 >>> ((8 : Int32) &&& 31).toUInt32).toInt32) &&& (255 : Int32)).toUInt32.toUInt16.toUInt32.toInt32))] [(.ref b20), (.ref b18), (.ref b18)])) rfl (by rw [hml]; rfl) (Steps.refl _) (a := b18) (argsL := [(.ref b20)]) (rest := [(.ref b18)]) (lenOf pd_P_CQV rfl) rfl (by show 2 * 0 + _ ≤ _; exact Nat.le_of_eq rfl) (hb hby d8_48) (fun _ _ => ⟨rfl, e23, (by decide : 2 + 1 ≤ _), (by decide : 5 + 1 ≤ _)⟩)
      dsimp only [Pt.U, Pt.locs, Pt.cells, Pt.slots] at X28 l28 y28 z28 st28 hQ28
      subst l28 y28 z28
      obtain ⟨rfl, N28q, KV28, EX28, CO28, tt28, kb28, -, -, -, VV28, KK28⟩ := hQ28
      have N28 := Fr.app N23 N28q
      have K28 : ∀ t, Steps p.tables e below (T28.setTop (mkF m 51 #[.val (.int p0), .val (.int p1), .val (.int ((p0 &&& (255 : Int32)).toUInt32.toUInt16.toUInt32.toInt32)), .val (.int ((((p0.toUInt32 >>> ((8 : Int32) &&& 31).toUInt32).toInt32) &&& (255 : Int32)).toUInt32.toUInt16.toUInt32.toInt32))] [(.ref b18)])) t → Steps p.tables e below G0 t := fun t kt => K23 t (st28.trans kt)
      have Z28 : n0 ≤ T28.heap.size := Nat.le_trans Z23 KV28.1
      have sn28 : own_Str Z T28.heap b18 [own_c p0] := ⟨EX28, CO28, ⟨_, _, VV28, KK28⟩, hpc, Nat.le_of_ble_eq_true rfl⟩
      have KQ29_0 := Keep.refl h0 []
      have sz29_18 := Nat.le_trans KQ29_0.1 (Nat.le_of_eq g18.symm)
      have KQ29_1 := KQ29_0.ext E18
      have sz29_20 := Nat.le_trans KQ29_1.1 (Nat.le_of_eq g20.symm)
      have KQ29_2 := KQ29_1.ext E20
      have KQ29_3 := KQ29_2.wr W23 (Or.inr sz29_20)
      have KQ29_4 := KQ29_3.trans KV28 (fun x hx => by simp only [List.mem_cons, List.not_mem_nil, or_false] at hx; rcases hx with rfl <;> first | exact (Or.inr sz29_18))
      have KQ30_0 := Keep.refl h0 []
      have sz30_18 := Nat.le_trans KQ30_0.1 (Nat.le_of_eq g18.symm)
      have KQ30_1 := KQ30_0.ext E18
      have sz30_20 := Nat.le_trans KQ30_1.1 (Nat.le_of_eq g20.symm)
      have KQ30_2 := KQ30_1.ext E20
      have KQ30_3 := KQ30_2.wr W23 (Or.inr sz30_20)
      have KQ30_4 := KQ30_3.trans KV28 (fun x hx => by simp only [List.mem_cons, List.not_mem_nil, or_false] at hx; rcases hx with rfl <;> first | exact (Or.inr sz30_18))
      have CH31 := CH0.trans (CHr.keep KQ30_4 sf0 CH0.1)
      have f32 := (Nat.le_trans (Nat.le_trans (Nat.le_trans (Nat.le_trans hk0 E18.1) E20.1) (Keep.of_wr W23).1) KV28.1)
      obtain ⟨fs, hr, hrun, hended, hREW⟩ := X28.leaveW hS0 (by rw [(rfl : T28.heap = _)]; exact f32) (v := some (.ref b18)) (fun h => by rw [Bd.returns] at h; cases h)
      have CHE := CH31.trans (CHv.at X28 hZ hEL CH31.1)
      refine ⟨_, _, ?_, hrun, hended, _, _, rfl, ?_, ?_, hREW.1, hREW.2.1, hREW.2.2.1, hREW.2.2.2.mono (by decide) (by decide)⟩
      · rw [← hG0]
        refine K28 _ ?_
        exact retOut X28 hx (t := (.object "java/lang/String")) Bd.returns rfl (Or.inr (Or.inr (Or.inr (Or.inr ⟨rfl, rfl, rfl⟩)))) (hb hby d8_51) hr
      · show Q8 Z p0 p1 G1 h0 n0 _ T28.heap _
        exact ⟨_, rfl, N28, KQ29_4, by rw [own_str, if_neg hc2, if_pos hc16]; exact sn28⟩
      · rw [hh]
        show CHr Z consts_1 s.vm h0 T28.vm T28.heap
        exact CHE
    ·
      have K33 : ∀ t, Steps p.tables e below (s₁.setTop (mkF m 52 #[.val (.int p0), .val (.int p1), .val (.int ((p0 &&& (255 : Int32)).toUInt32.toUInt16.toUInt32.toInt32)), .val (.int ((((p0.toUInt32 >>> ((8 : Int32) &&& 31).toUInt32).toInt32) &&& (255 : Int32)).toUInt32.toUInt16.toUInt32.toInt32))] [])) t → Steps p.tables e below G0 t := by
        intro t kt
        refine K15 t ?_
        refine XS.icmpYes X0.here hx rfl (pc0 := 34) (pc' := 52) rfl (hb hby d8_34) rfl (feq hc16).2 (by decide) (by decide) ?_
        show Steps p.tables e below (s₁.setTop (mkF m 52 #[.val (.int p0), .val (.int p1), .val (.int ((p0 &&& (255 : Int32)).toUInt32.toUInt16.toUInt32.toInt32)), .val (.int ((((p0.toUInt32 >>> ((8 : Int32) &&& 31).toUInt32).toInt32) &&& (255 : Int32)).toUInt32.toUInt16.toUInt32.toInt32))] [])) _
        exact kt
      obtain ⟨T34, h34, X34, e34, E34, A34, D34, -, st34⟩ := newO X0 hx hZ hown (hw _ (List.mem_of_getElem? (i := 7) rfl)) (hw _ (List.mem_of_getElem? (i := 8) rfl)) (hw _ (List.mem_of_getElem? (i := 9) rfl)) e0 (g := (mkF m 52 #[.val (.int p0), .val (.int p1), .val (.int ((p0 &&& (255 : Int32)).toUInt32.toUInt16.toUInt32.toInt32)), .val (.int ((((p0.toUInt32 >>> ((8 : Int32) &&& 31).toUInt32).toInt32) &&& (255 : Int32)).toUInt32.toUInt16.toUInt32.toInt32))] [])) rfl (hb hby d8_52) (by decide) (by decide)
      obtain ⟨b34, g34⟩ : ∃ z, z = h0.size := ⟨_, rfl⟩
      rw [← g34] at A34 D34 st34
      have gn34 : n0 ≤ b34 := Nat.le_trans Z0 (Nat.le_of_eq g34.symm)
      have Z34 : n0 ≤ h34.size := Nat.le_trans Z0 E34.1
      have K34 : ∀ t, Steps p.tables e below (T34.setTop (mkF m 55 #[.val (.int p0), .val (.int p1), .val (.int ((p0 &&& (255 : Int32)).toUInt32.toUInt16.toUInt32.toInt32)), .val (.int ((((p0.toUInt32 >>> ((8 : Int32) &&& 31).toUInt32).toInt32) &&& (255 : Int32)).toUInt32.toUInt16.toUInt32.toInt32))] [(.ref b34)])) t → Steps p.tables e below G0 t := fun t kt => K33 t (st34 _ kt)
      have F_coder_b34 := (D34 (Or.inr (hw _ (List.mem_of_getElem? (i := 34) rfl))) (ty := .byte) (by decide) : Fld Z h34 b34 "java/lang/String" "coder" "B" (.int (0 : Int32)))
      have F_value_b34 := (D34 (Or.inr (hw _ (List.mem_of_getElem? (i := 36) rfl))) (ty := (.array .byte)) (by decide) : Fld Z h34 b34 "java/lang/String" "value" "[B" .null)
      have K35 : ∀ t, Steps p.tables e below (T34.setTop (mkF m 57 #[.val (.int p0), .val (.int p1), .val (.int ((p0 &&& (255 : Int32)).toUInt32.toUInt16.toUInt32.toInt32)), .val (.int ((((p0.toUInt32 >>> ((8 : Int32) &&& 31).toUInt32).toInt32) &&& (255 : Int32)).toUInt32.toUInt16.toUInt32.toInt32))] [(.int (2 : Int32)), (.ref b34), (.ref b34)])) t → Steps p.tables e below G0 t := by
        intro t kt
        refine K34 t ?_
        refine XS.dup X34.here hx rfl (hb hby d8_55) rfl rfl ?_
        show Steps p.tables e below (T34.setTop (mkF m 56 #[.val (.int p0), .val (.int p1), .val (.int ((p0 &&& (255 : Int32)).toUInt32.toUInt16.toUInt32.toInt32)), .val (.int ((((p0.toUInt32 >>> ((8 : Int32) &&& 31).toUInt32).toInt32) &&& (255 : Int32)).toUInt32.toUInt16.toUInt32.toInt32))] [(.ref b34), (.ref b34)])) _
        refine XS.iconst X34.here hx rfl (hb hby d8_56) ?_
        show Steps p.tables e below (T34.setTop (mkF m 57 #[.val (.int p0), .val (.int p1), .val (.int ((p0 &&& (255 : Int32)).toUInt32.toUInt16.toUInt32.toInt32)), .val (.int ((((p0.toUInt32 >>> ((8 : Int32) &&& 31).toUInt32).toInt32) &&& (255 : Int32)).toUInt32.toUInt16.toUInt32.toInt32))] [(.int (2 : Int32)), (.ref b34), (.ref b34)])) _
        exact kt
      obtain ⟨T36, h36, k36, X36, e36, E36, A36, st36⟩ := newP X34 hx hZ (hw _ (List.mem_of_getElem? (i := 10) rfl)) e34 (g := (mkF m 57 #[.val (.int p0), .val (.int p1), .val (.int ((p0 &&& (255 : Int32)).toUInt32.toUInt16.toUInt32.toInt32)), .val (.int ((((p0.toUInt32 >>> ((8 : Int32) &&& 31).toUInt32).toInt32) &&& (255 : Int32)).toUInt32.toUInt16.toUInt32.toInt32))] [(.int (2 : Int32)), (.ref b34), (.ref b34)])) rfl (hb hby d8_57) rfl (by decide) (cap := 2) (by decide) (by decide) (by decide) (by decide)
      obtain ⟨b36, g36⟩ : ∃ z, z = h34.size := ⟨_, rfl⟩
      rw [← g36] at A36 st36
      have V36 := Arv.new A36 (by decide)
      have gn36 : n0 ≤ b36 := Nat.le_trans Z34 (Nat.le_of_eq g36.symm)
      have Z36 : n0 ≤ h36.size := Nat.le_trans Z34 E36.1
      have K36 : ∀ t, Steps p.tables e below (T36.setTop (mkF m 59 #[.val (.int p0), .val (.int p1), .val (.int ((p0 &&& (255 : Int32)).toUInt32.toUInt16.toUInt32.toInt32)), .val (.int ((((p0.toUInt32 >>> ((8 : Int32) &&& 31).toUInt32).toInt32) &&& (255 : Int32)).toUInt32.toUInt16.toUInt32.toInt32))] [(.ref b36), (.ref b34), (.ref b34)])) t → Steps p.tables e below G0 t := fun t kt => K35 t (st36 _ kt)
      have ne_b34_b36 : b34 ≠ b36 := Nat.ne_of_lt (Nat.lt_of_lt_of_le (A34).lt (Nat.le_of_eq g36.symm))
      have VL36 : Arv Z h36 b36 k36 .char (2 : Int32) [(.int (0 : Int32)), (.int (0 : Int32))] (.int (0 : Int32)) := V36.pad (pad_rep [] (.int (0 : Int32)) 2)
      have K37 : ∀ t, Steps p.tables e below (T36.setTop (mkF m 62 #[.val (.int p0), .val (.int p1), .val (.int ((p0 &&& (255 : Int32)).toUInt32.toUInt16.toUInt32.toInt32)), .val (.int ((((p0.toUInt32 >>> ((8 : Int32) &&& 31).toUInt32).toInt32) &&& (255 : Int32)).toUInt32.toUInt16.toUInt32.toInt32))] [(.int ((p0 &&& (255 : Int32)).toUInt32.toUInt16.toUInt32.toInt32)), (.int (0 : Int32)), (.ref b36), (.ref b36), (.ref b34), (.ref b34)])) t → Steps p.tables e below G0 t := by
        intro t kt
        refine K36 t ?_
        refine XS.dup X36.here hx rfl (hb hby d8_59) rfl rfl ?_
        show Steps p.tables e below (T36.setTop (mkF m 60 #[.val (.int p0), .val (.int p1), .val (.int ((p0 &&& (255 : Int32)).toUInt32.toUInt16.toUInt32.toInt32)), .val (.int ((((p0.toUInt32 >>> ((8 : Int32) &&& 31).toUInt32).toInt32) &&& (255 : Int32)).toUInt32.toUInt16.toUInt32.toInt32))] [(.ref b36), (.ref b36), (.ref b34), (.ref b34)])) _
        refine XS.iconst X36.here hx rfl (hb hby d8_60) ?_
        show Steps p.tables e below (T36.setTop (mkF m 61 #[.val (.int p0), .val (.int p1), .val (.int ((p0 &&& (255 : Int32)).toUInt32.toUInt16.toUInt32.toInt32)), .val (.int ((((p0.toUInt32 >>> ((8 : Int32) &&& 31).toUInt32).toInt32) &&& (255 : Int32)).toUInt32.toUInt16.toUInt32.toInt32))] [(.int (0 : Int32)), (.ref b36), (.ref b36), (.ref b34), (.ref b34)])) _
        refine XS.iloadN X36.here hx rfl (hb hby d8_61) rfl ?_
        show Steps p.tables e below (T36.setTop (mkF m 62 #[.val (.int p0), .val (.int p1), .val (.int ((p0 &&& (255 : Int32)).toUInt32.toUInt16.toUInt32.toInt32)), .val (.int ((((p0.toUInt32 >>> ((8 : Int32) &&& 31).toUInt32).toInt32) &&& (255 : Int32)).toUInt32.toUInt16.toUInt32.toInt32))] [(.int ((p0 &&& (255 : Int32)).toUInt32.toUInt16.toUInt32.toInt32)), (.int (0 : Int32)), (.ref b36), (.ref b36), (.ref b34), (.ref b34)])) _
        exact kt
      obtain ⟨cl38, Ar38, qq38, S38, M38, H38, GG38⟩ := id VL36
      have hin38 : ¬ ((0 : Int32) < 0 ∨ cl38.slots.size ≤ ((0 : Int32)).toNatClampNeg) := inb_of S38 ⟨by decide, by decide⟩
      obtain ⟨T39, h39, X39, e39, W39, st39⟩ := stC X36 hx hZ e36 Ar38 (j := (0 : Int32)) hin38 (g := (mkF m 62 #[.val (.int p0), .val (.int p1), .val (.int ((p0 &&& (255 : Int32)).toUInt32.toUInt16.toUInt32.toInt32)), .val (.int ((((p0.toUInt32 >>> ((8 : Int32) &&& 31).toUInt32).toInt32) &&& (255 : Int32)).toUInt32.toUInt16.toUInt32.toInt32))] [(.int ((p0 &&& (255 : Int32)).toUInt32.toUInt16.toUInt32.toInt32)), (.int (0 : Int32)), (.ref b36), (.ref b36), (.ref b34), (.ref b34)])) rfl rfl (hb hby d8_62)
      have K39 : ∀ t, Steps p.tables e below (T39.setTop (mkF m 63 #[.val (.int p0), .val (.int p1), .val (.int ((p0 &&& (255 : Int32)).toUInt32.toUInt16.toUInt32.toInt32)), .val (.int ((((p0.toUInt32 >>> ((8 : Int32) &&& 31).toUInt32).toInt32) &&& (255 : Int32)).toUInt32.toUInt16.toUInt32.toInt32))] [(.ref b36), (.ref b34), (.ref b34)])) t → Steps p.tables e below G0 t := fun t kt => K37 t (st39 _ kt)
      have Z39 : n0 ≤ h39.size := Nat.le_trans Z36 (Keep.of_wr W39).1
      have VL39 : Arv Z h39 b36 k36 .char (2 : Int32) [(.int (nar .char ((p0 &&& (255 : Int32)).toUInt32.toUInt16.toUInt32.toInt32))), (.int (0 : Int32))] (.int (0 : Int32)) := Arv.set Ar38 qq38 S38 M38 H38 GG38 (fits_nar_char _) W39 0 rfl (Nat.le_of_ble_eq_true rfl)
      have N39 := Fr.snoc X39 N0 gn36
      have K40 : ∀ t, Steps p.tables e below (T39.setTop (mkF m 66 #[.val (.int p0), .val (.int p1), .val (.int ((p0 &&& (255 : Int32)).toUInt32.toUInt16.toUInt32.toInt32)), .val (.int ((((p0.toUInt32 >>> ((8 : Int32) &&& 31).toUInt32).toInt32) &&& (255 : Int32)).toUInt32.toUInt16.toUInt32.toInt32))] [(.int ((((p0.toUInt32 >>> ((8 : Int32) &&& 31).toUInt32).toInt32) &&& (255 : Int32)).toUInt32.toUInt16.toUInt32.toInt32)), (.int (1 : Int32)), (.ref b36), (.ref b36), (.ref b34), (.ref b34)])) t → Steps p.tables e below G0 t := by
        intro t kt
        refine K39 t ?_
        refine XS.dup X39.here hx rfl (hb hby d8_63) rfl rfl ?_
        show Steps p.tables e below (T39.setTop (mkF m 64 #[.val (.int p0), .val (.int p1), .val (.int ((p0 &&& (255 : Int32)).toUInt32.toUInt16.toUInt32.toInt32)), .val (.int ((((p0.toUInt32 >>> ((8 : Int32) &&& 31).toUInt32).toInt32) &&& (255 : Int32)).toUInt32.toUInt16.toUInt32.toInt32))] [(.ref b36), (.ref b36), (.ref b34), (.ref b34)])) _
        refine XS.iconst X39.here hx rfl (hb hby d8_64) ?_
        show Steps p.tables e below (T39.setTop (mkF m 65 #[.val (.int p0), .val (.int p1), .val (.int ((p0 &&& (255 : Int32)).toUInt32.toUInt16.toUInt32.toInt32)), .val (.int ((((p0.toUInt32 >>> ((8 : Int32) &&& 31).toUInt32).toInt32) &&& (255 : Int32)).toUInt32.toUInt16.toUInt32.toInt32))] [(.int (1 : Int32)), (.ref b36), (.ref b36), (.ref b34), (.ref b34)])) _
        refine XS.iloadN X39.here hx rfl (hb hby d8_65) rfl ?_
        show Steps p.tables e below (T39.setTop (mkF m 66 #[.val (.int p0), .val (.int p1), .val (.int ((p0 &&& (255 : Int32)).toUInt32.toUInt16.toUInt32.toInt32)), .val (.int ((((p0.toUInt32 >>> ((8 : Int32) &&& 31).toUInt32).toInt32) &&& (255 : Int32)).toUInt32.toUInt16.toUInt32.toInt32))] [(.int ((((p0.toUInt32 >>> ((8 : Int32) &&& 31).toUInt32).toInt32) &&& (255 : Int32)).toUInt32.toUInt16.toUInt32.toInt32)), (.int (1 : Int32)), (.ref b36), (.ref b36), (.ref b34), (.ref b34)])) _
        exact kt
      obtain ⟨cl41, Ar41, qq41, S41, M41, H41, GG41⟩ := id VL39
      have hin41 : ¬ ((1 : Int32) < 0 ∨ cl41.slots.size ≤ ((1 : Int32)).toNatClampNeg) := inb_of S41 ⟨by decide, by decide⟩
      obtain ⟨T42, h42, X42, e42, W42, st42⟩ := stC X39 hx hZ e39 Ar41 (j := (1 : Int32)) hin41 (g := (mkF m 66 #[.val (.int p0), .val (.int p1), .val (.int ((p0 &&& (255 : Int32)).toUInt32.toUInt16.toUInt32.toInt32)), .val (.int ((((p0.toUInt32 >>> ((8 : Int32) &&& 31).toUInt32).toInt32) &&& (255 : Int32)).toUInt32.toUInt16.toUInt32.toInt32))] [(.int ((((p0.toUInt32 >>> ((8 : Int32) &&& 31).toUInt32).toInt32) &&& (255 : Int32)).toUInt32.toUInt16.toUInt32.toInt32)), (.int (1 : Int32)), (.ref b36), (.ref b36), (.ref b34), (.ref b34)])) rfl rfl (hb hby d8_66)
      have K42 : ∀ t, Steps p.tables e below (T42.setTop (mkF m 67 #[.val (.int p0), .val (.int p1), .val (.int ((p0 &&& (255 : Int32)).toUInt32.toUInt16.toUInt32.toInt32)), .val (.int ((((p0.toUInt32 >>> ((8 : Int32) &&& 31).toUInt32).toInt32) &&& (255 : Int32)).toUInt32.toUInt16.toUInt32.toInt32))] [(.ref b36), (.ref b34), (.ref b34)])) t → Steps p.tables e below G0 t := fun t kt => K40 t (st42 _ kt)
      have Z42 : n0 ≤ h42.size := Nat.le_trans Z39 (Keep.of_wr W42).1
      have VL42 : Arv Z h42 b36 k36 .char (2 : Int32) [(.int (nar .char ((p0 &&& (255 : Int32)).toUInt32.toUInt16.toUInt32.toInt32))), (.int (nar .char ((((p0.toUInt32 >>> ((8 : Int32) &&& 31).toUInt32).toInt32) &&& (255 : Int32)).toUInt32.toUInt16.toUInt32.toInt32)))] (.int (0 : Int32)) := Arv.set Ar41 qq41 S41 M41 H41 GG41 (fits_nar_char _) W42 1 rfl (Nat.le_of_ble_eq_true rfl)
      have N42 := Fr.snoc X42 N39 gn36
      have hpc : ∀ c ∈ ([own_c p0, own_c (own_sh p0)] : List Int32), ¬ c < 0 ∧ ¬ (255 : Int32) < c := by
        intro c hc
        simp only [List.mem_cons, List.not_mem_nil, or_false] at hc
        rcases hc with rfl | rfl
        all_goals exact own_cb _
      have f43 := (((A34.ext E36).wr W39).wr W42)
      have f44 := (((F_value_b34.ext E36).other W39 (Or.inl ne_b34_b36)).other W42 (Or.inl ne_b34_b36))
      have f45 := (((F_coder_b34.ext E36).other W39 (Or.inl ne_b34_b36)).other W42 (Or.inl ne_b34_b36))
      have f46 := ((((HO.ext E34).ext E36).wr W39 gn36).wr W42 gn36)
      obtain ⟨v47, _, ⟨T47, L47, k47, n47⟩, -, X47, ⟨Lc47, hQ47, l47, y47, z47⟩, st47⟩ := X42.specialBack hx (y := (⟨"java/lang/String", "<init>", "([C)V"⟩ : MethodName)) rfl hown (mvT hZ (hw _ (List.mem_of_getElem? (i := 11) rfl))) (mvT hZ (hw _ (List.mem_of_getElem? (i := 12) rfl))) (mvT hZ (hw _ (List.mem_of_getElem? (i := 13) rfl))) (by decide) (StrChars.Road.backV (W := 1) hZ (own_wsV hw) (kI := 4) (hw _ (List.mem_of_getElem? (i := 8) rfl)) (cs := [own_c p0, own_c (own_sh p0)]) (bs := ([own_c p0, own_c (own_sh p0)] : List Int32).map (fun c => c.toInt8.toInt32)) (n := 2) gn34 Z42 f43 f44 f45 VL42 (O2.ext f46.2) P5 rfl rfl (by decide) (by decide) hpc rfl (by decide) (by decide)) (g := (mkF m 67 #[.val (.int p0), .val (.int p1), .val (.int ((p0 &&& (255 : Int32)).toUInt32.toUInt16.toUInt32.toInt32)), .val (.int ((((p0.toUInt32 >>> ((8 : Int32) &&& 31).toUInt32).toInt32) &&& (255 : Int32)).toUInt32.toUInt16.toUInt32.toInt32))] [(.ref b36), (.ref b34), (.ref b34)])) rfl (by rw [hml]; rfl) (Steps.refl _) (a := b34) (argsL := [(.ref b36)]) (rest := [(.ref b34)]) (lenOf pd_P_CQV rfl) rfl (by show 2 * 0 + _ ≤ _; exact Nat.le_of_eq rfl) (hb hby d8_67) (fun _ _ => ⟨rfl, e42, (by decide : 2 + 1 ≤ _), (by decide : 6 + 2 ≤ _)⟩)
      dsimp only [Pt.U, Pt.locs, Pt.cells, Pt.slots] at X47 l47 y47 z47 st47 hQ47
      subst l47 y47 z47
      obtain ⟨rfl, N47q, KV47, EX47, CO47, tt47, kb47, -, -, -, VV47, KK47⟩ := hQ47
      have N47 := Fr.app N42 N47q
      have K47 : ∀ t, Steps p.tables e below (T47.setTop (mkF m 70 #[.val (.int p0), .val (.int p1), .val (.int ((p0 &&& (255 : Int32)).toUInt32.toUInt16.toUInt32.toInt32)), .val (.int ((((p0.toUInt32 >>> ((8 : Int32) &&& 31).toUInt32).toInt32) &&& (255 : Int32)).toUInt32.toUInt16.toUInt32.toInt32))] [(.ref b34)])) t → Steps p.tables e below G0 t := fun t kt => K42 t (st47.trans kt)
      have Z47 : n0 ≤ T47.heap.size := Nat.le_trans Z42 KV47.1
      have sn47 : own_Str Z T47.heap b34 [own_c p0, own_c (own_sh p0)] := ⟨EX47, CO47, ⟨_, _, VV47, KK47⟩, hpc, Nat.le_of_ble_eq_true rfl⟩
      have KQ48_0 := Keep.refl h0 []
      have sz48_34 := Nat.le_trans KQ48_0.1 (Nat.le_of_eq g34.symm)
      have KQ48_1 := KQ48_0.ext E34
      have sz48_36 := Nat.le_trans KQ48_1.1 (Nat.le_of_eq g36.symm)
      have KQ48_2 := KQ48_1.ext E36
      have KQ48_3 := KQ48_2.wr W39 (Or.inr sz48_36)
      have KQ48_4 := KQ48_3.wr W42 (Or.inr sz48_36)
      have KQ48_5 := KQ48_4.trans KV47 (fun x hx => by simp only [List.mem_cons, List.not_mem_nil, or_false] at hx; rcases hx with rfl <;> first | exact (Or.inr sz48_34))
      have KQ49_0 := Keep.refl h0 []
      have sz49_34 := Nat.le_trans KQ49_0.1 (Nat.le_of_eq g34.symm)
      have KQ49_1 := KQ49_0.ext E34
      have sz49_36 := Nat.le_trans KQ49_1.1 (Nat.le_of_eq g36.symm)
      have KQ49_2 := KQ49_1.ext E36
      have KQ49_3 := KQ49_2.wr W39 (Or.inr sz49_36)
      have KQ49_4 := KQ49_3.wr W42 (Or.inr sz49_36)
      have KQ49_5 := KQ49_4.trans KV47 (fun x hx => by simp only [List.mem_cons, List.not_mem_nil, or_false] at hx; rcases hx with rfl <;> first | exact (Or.inr sz49_34))
      have CH50 := CH0.trans (CHr.keep KQ49_5 sf0 CH0.1)
      have f51 := (Nat.le_trans (Nat.le_trans (Nat.le_trans (Nat.le_trans (Nat.le_trans hk0 E34.1) E36.1) (Keep.of_wr W39).1) (Keep.of_wr W42).1) KV47.1)
      obtain ⟨fs, hr, hrun, hended, hREW⟩ := X47.leaveW hS0 (by rw [(rfl : T47.heap = _)]; exact f51) (v := some (.ref b34)) (fun h => by rw [Bd.returns] at h; cases h)
      have CHE := CH50.trans (CHv.at X47 hZ hEL CH50.1)
      refine ⟨_, _, ?_, hrun, hended, _, _, rfl, ?_, ?_, hREW.1, hREW.2.1, hREW.2.2.1, hREW.2.2.2.mono (by decide) (by decide)⟩
      · rw [← hG0]
        refine K47 _ ?_
        exact retOut X47 hx (t := (.object "java/lang/String")) Bd.returns rfl (Or.inr (Or.inr (Or.inr (Or.inr ⟨rfl, rfl, rfl⟩)))) (hb hby d8_70) hr
      · show Q8 Z p0 p1 G1 h0 n0 _ T47.heap _
        exact ⟨_, rfl, N47, KQ48_5, by rw [own_str, if_neg hc2, if_neg hc16]; exact sn47⟩
      · rw [hh]
        show CHr Z consts_1 s.vm h0 T47.vm T47.heap
        exact CHE
theorem d10_0 : decode prog_143_method_2_code 0 = .ok (.ldc 33, 2) := by decide +kernel
theorem d10_2 : decode prog_143_method_2_code 2 = .ok (.aload_n 0, 1) := by decide +kernel
theorem d10_3 : decode prog_143_method_2_code 3 = .ok (.invokevirtual 35, 3) := by decide +kernel
theorem d10_6 : decode prog_143_method_2_code 6 = .ok (.ifCond .ne 26, 3) := by decide +kernel
theorem d10_9 : decode prog_143_method_2_code 9 = .ok (.ldc 39, 2) := by decide +kernel
theorem d10_11 : decode prog_143_method_2_code 11 = .ok (.aload_n 0, 1) := by decide +kernel
theorem d10_12 : decode prog_143_method_2_code 12 = .ok (.invokevirtual 35, 3) := by decide +kernel
theorem d10_15 : decode prog_143_method_2_code 15 = .ok (.ifCond .ne 17, 3) := by decide +kernel
theorem d10_18 : decode prog_143_method_2_code 18 = .ok (.new 41, 3) := by decide +kernel
theorem d10_21 : decode prog_143_method_2_code 21 = .ok (.dup, 1) := by decide +kernel
theorem d10_22 : decode prog_143_method_2_code 22 = .ok (.aload_n 0, 1) := by decide +kernel
theorem d10_28 : decode prog_143_method_2_code 28 = .ok (.invokespecial 46, 3) := by decide +kernel
theorem d10_31 : decode prog_143_method_2_code 31 = .ok (.athrow, 1) := by decide +kernel
theorem d10_32 : decode prog_143_method_2_code 32 = .ok (.aload_n 0, 1) := by decide +kernel
theorem d10_33 : decode prog_143_method_2_code 33 = .ok (.areturn, 1) := by decide +kernel
theorem pn_com_example_lichen_lichen_model_PolicyIdentifier : plainName "com/example/lichen/lichen/model/PolicyIdentifier" = true := by first | (simp [plainName, overriddenIn]; done) | decide +kernel
theorem pd_PLjava_lang_Object_QZ : parseMethodDescriptor "(Ljava/lang/Object;)Z" = some ⟨[(.object "java/lang/Object")], some .boolean⟩ := by decide +kernel
theorem ef_rm10 (m : MethodId) (a0 : Addr) : entryFrame m #[(.ref a0)] 1 = (mkF m 0 #[.val (.ref a0)] []) := by first | (simp [entryFrame, mkF, argsToLocals, Value.category]; done) | rfl
def Q10 (Z : State) (a0 : Addr) (cs : List Int32) (G1 : Int32) (h0 : Heap) (n0 : Nat) (v : Option Value) (h : Heap) (L : List Loc) : Prop := v = some (.ref a0) ∧ Fr n0 L ∧ Keep h0 h []
set_option maxRecDepth 65536 in
set_option maxHeartbeats 40000000 in
theorem rm10 (l : Launch) (Z : State) (aa : Array Value) (hw : ∀ d ∈ tables_1, d.before aa Z = true) (hEL : EW Z aa consts_1) (ws : List Jvm.Cond) (a0 : Addr) (cs : List Int32) (G1 : Int32) (h0 : Heap) (n0 : Nat) (Z0 : n0 ≤ h0.size) (O2 : Sta Z Z.heap "java/lang/String" "COMPACT_STRINGS" "Z" (.int G1)) (P5 : ¬ (G1 = (0 : Int32))) (HO : Old Z n0 h0) (S0 : own_Str Z h0 a0 cs) (hcs : cs = own_pol ∨ cs = own_set) :
    MetFree l (⟨"com/example/lichen/lichen/model/PolicyIdentifier", "requireKind", "(Ljava/lang/String;)Ljava/lang/String;"⟩ : MethodName) (head1 (Jvm.Cond.code (⟨"com/example/lichen/lichen/model/PolicyIdentifier", "requireKind", "(Ljava/lang/String;)Ljava/lang/String;"⟩ : MethodName) prog_143_method_2_code 1 (some (.object "java/lang/String")) :: ws) ({ frames := 2, cells := 4, slots := 68, locals := 28 } : Room)) (fun a U => a = #[(.ref a0)] ∧ Z.Warmed39 U.vm ∧ U.heap = h0 ∧ CHv Z consts_1 U.vm h0) (fun _ _ _ _ _ => True) (fun _ U o U' => ∃ v L, o = .returned v ∧ Q10 Z a0 cs G1 h0 n0 v U'.heap L ∧ CHr Z consts_1 U.vm U.heap U'.vm U'.heap ∧ ReturnedEndW U o U' L ({ frames := 2, cells := 4, slots := 68, locals := 28 } : Room).cells ({ frames := 2, cells := 4, slots := 68, locals := 28 } : Room).slots) := by
  refine MetFree.of_bodySF (plainFor_of_name pn_com_example_lichen_lichen_model_PolicyIdentifier) hisR ?_
  intro p e s m args below meth c s₁ Bd hml0 hP hK
  obtain ⟨rfl, hZ, hh, hCH⟩ := hP
  have hx := Bd.exec
  have hby := Bd.bytes
  have hml : c.maxLocals = 1 := hml0
  have hown : s.vm.findClass "com/example/lichen/lichen/model/PolicyIdentifier" = some m.cls := findClass_of_methodNamed Bd.named
  have hnm := (name_of_methodNamed Bd.named Bd.method).1
  have X0 : Stand p l e ({ frames := 2, cells := 4, slots := 68, locals := 28 } : Room) (s.setVm s.vm) m #[(.ref a0)] below meth c s₁ [] 0 0 := (Stand.of_body Bd : Stand p l e ({ frames := 2, cells := 4, slots := 68, locals := 28 } : Room) s m #[(.ref a0)] below meth c s₁ [] 0 0)
  have hS0 : s.Since s.vm h0.size := (State.WarmedH.refl s).since _
  have hk0 : h0.size ≤ h0.size := Nat.le_refl _
  have CH0 : CHr Z consts_1 s.vm h0 s.vm h0 := CHr.refl hCH
  have e0 : s₁.heap = h0 := by rw [← hh, Bd.state]; rfl
  have N0 := Fr.nil n0
  obtain ⟨G0, hG0⟩ : ∃ G, G = s₁.setTop (entryFrame m #[(.ref a0)] 1) := ⟨_, rfl⟩
  have K0 : ∀ t, Steps p.tables e below (s₁.setTop (mkF m 0 #[.val (.ref a0)] [])) t → Steps p.tables e below G0 t := fun t k => by rw [hG0]; exact castTop (ef_rm10 m a0) k
  obtain ⟨a1, T1, h1, kk1, bb1, kc1, X1, e1, E1, hS1, hk1, hZ1, hown1, LE1, LC1, LV1, LA1, la1, lb1, CR1, -, -, st1⟩ := ldcCH X0 hx hZ hown (hw _ (List.mem_of_getElem? (i := 50) rfl)) (own_wS hw) e0 hS0 hk0 hEL (by decide +kernel) CH0.1 (vs := [(.int (80 : Int32)), (.int (111 : Int32)), (.int (108 : Int32)), (.int (105 : Int32)), (.int (99 : Int32)), (.int (121 : Int32))]) (z := (6 : Int32)) ⟨by decide, by decide⟩ (by decide) (by decide) (g := (mkF m 0 #[.val (.ref a0)] [])) rfl (hb hby d10_0) (n := 24) (by decide) (by decide) (by decide) (by decide)
  have K1 : ∀ t, Steps p.tables e below (T1.setTop (mkF m 2 #[.val (.ref a0)] [(.ref a1)])) t → Steps p.tables e below G0 t := fun t kt => K0 t (st1 _ kt)
  have Z1 : n0 ≤ h1.size := Nat.le_trans Z0 E1.1
  have CH1 := CH0.trans CR1
  have hl1 : ((([(80 : Int32), (111 : Int32), (108 : Int32), (105 : Int32), (99 : Int32), (121 : Int32)] : List Int32).map StrChars.lo8).map Value.int) = [(.int (80 : Int32)), (.int (111 : Int32)), (.int (108 : Int32)), (.int (105 : Int32)), (.int (99 : Int32)), (.int (121 : Int32))] := by decide +kernel
  have sl1 : own_Str Z h1 a1 [(80 : Int32), (111 : Int32), (108 : Int32), (105 : Int32), (99 : Int32), (121 : Int32)] := ⟨LE1, LC1, ⟨_, _, LV1, by rw [hl1]; exact LA1⟩, by decide, by decide⟩
  have K2 : ∀ t, Steps p.tables e below (T1.setTop (mkF m 3 #[.val (.ref a0)] [(.ref a0), (.ref a1)])) t → Steps p.tables e below G0 t := by
    intro t kt
    refine K1 t ?_
    refine XS.aloadN X1.here hx rfl (hb hby d10_2) rfl rfl ?_
    show Steps p.tables e below (T1.setTop (mkF m 3 #[.val (.ref a0)] [(.ref a0), (.ref a1)])) _
    exact kt
  have KQ3_0 := Keep.refl h0 []
  have KQ3_1 := KQ3_0.ext E1
  have s4 := own_Str.keep0 S0 KQ3_1
  obtain ⟨EX5, CX5, ⟨bX5, kX5, VX5, KX5⟩, pX5, lX5⟩ := id sl1
  obtain ⟨EY5, CY5, ⟨bY5, kY5, VY5, KY5⟩, pY5, lY5⟩ := id s4
  have f6 := (HO.ext E1)
  obtain ⟨cq7, kq7, q7a, q7b, q7c⟩ := isOf hZ1 e1 EX5
  obtain ⟨v8, _, ⟨T8, L8, k8, n8⟩, -, X8, ⟨Lc8, hQ8, l8, y8, z8⟩, st8⟩ := X1.virtualBack hx (y := (⟨"java/lang/String", "equals", "(Ljava/lang/Object;)Z"⟩ : MethodName)) (z := (⟨"java/lang/String", "equals", "(Ljava/lang/Object;)Z"⟩ : MethodName)) hown1 (mvT hZ1 (hw _ (List.mem_of_getElem? (i := 51) rfl))) (mvT hZ1 (hw _ (List.mem_of_getElem? (i := 52) rfl))) (notFace_of_selects (args := #[]) (mvT hZ1 (hw _ (List.mem_of_getElem? (i := 54) rfl)))) (mvT hZ1 (hw _ (List.mem_of_getElem? (i := 54) rfl))) (mvT hZ1 (hw _ (List.mem_of_getElem? (i := 53) rfl))) (by decide) (StrChars.Road.eqW (W := 0) hZ1 (own_wsE hw) (kI := 4) (hw _ (List.mem_of_getElem? (i := 8) rfl)) EX5 VX5 CX5 KX5 (StrChars.Road.codOf rfl (fun c hc => (pX5 c hc).2)) (own_up pX5) lX5 EY5 VY5 CY5 KY5 (StrChars.Road.codOf rfl (fun c hc => (pY5 c hc).2)) (own_up pY5) lY5 (O2.ext f6.2) P5 (by decide) (by decide)) q7a q7c (g := (mkF m 3 #[.val (.ref a0)] [(.ref a0), (.ref a1)])) rfl (by rw [hml]; rfl) (Steps.refl _) (argsL := [(.ref a0)]) (rest := []) (lenOf pd_PLjava_lang_Object_QZ rfl) rfl (by show 2 * 0 + _ ≤ _; exact Nat.le_of_eq rfl) (hb hby d10_3) (fun _ _ => ⟨rfl, e1, (by decide : 2 + 0 ≤ _), (by decide : 28 + 0 ≤ _)⟩)
  dsimp only [Pt.U, Pt.locs, Pt.cells, Pt.slots] at X8 l8 y8 z8 st8 hQ8
  subst l8 y8 z8
  obtain ⟨hv8, rfl, e8⟩ := hQ8
  obtain rfl := own_qv hv8
  have N8 := Fr.app N0 (Fr.nil n0)
  have K8 : ∀ t, Steps p.tables e below (T8.setTop (mkF m 6 #[.val (.ref a0)] [(.int (own_q [(80 : Int32), (111 : Int32), (108 : Int32), (105 : Int32), (99 : Int32), (121 : Int32)] cs))])) t → Steps p.tables e below G0 t := fun t kt => K2 t (st8.trans kt)
  by_cases hc9 : [(80 : Int32), (111 : Int32), (108 : Int32), (105 : Int32), (99 : Int32), (121 : Int32)] = cs
  ·
    have K10 : ∀ t, Steps p.tables e below (T8.setTop (mkF m 33 #[.val (.ref a0)] [(.ref a0)])) t → Steps p.tables e below G0 t := by
      intro t kt
      refine K8 t ?_
      refine XS.ifYes X8.here hx rfl (pc0 := 6) (pc' := 32) rfl (hb hby d10_6) rfl ((if0 _ _).trans (feq (by rw [show own_q [(80 : Int32), (111 : Int32), (108 : Int32), (105 : Int32), (99 : Int32), (121 : Int32)] cs = 1 from if_pos hc9]; decide)).2) (by decide) (by decide) ?_
      show Steps p.tables e below (T8.setTop (mkF m 32 #[.val (.ref a0)] [])) _
      refine XS.aloadN X8.here hx rfl (hb hby d10_32) rfl rfl ?_
      show Steps p.tables e below (T8.setTop (mkF m 33 #[.val (.ref a0)] [(.ref a0)])) _
      exact kt
    have KQ11_0 := Keep.refl h0 []
    have KQ11_1 := KQ11_0.ext E1
    obtain ⟨fs, hr, hrun, hended, hREW⟩ := X8.leaveW hS1 (by rw [e8]; exact hk1) (v := some (.ref a0)) (fun h => by rw [Bd.returns] at h; cases h)
    have CHE := CH1.trans (CHv.at X8 hZ1 hEL CH1.1)
    refine ⟨_, _, ?_, hrun, hended, _, _, rfl, ?_, ?_, hREW.1, hREW.2.1, hREW.2.2.1, hREW.2.2.2.mono (by decide) (by decide)⟩
    · rw [← hG0]
      refine K10 _ ?_
      exact retOut X8 hx (t := (.object "java/lang/String")) Bd.returns rfl (Or.inr (Or.inr (Or.inr (Or.inr ⟨rfl, rfl, rfl⟩)))) (hb hby d10_33) hr
    · show Q10 Z a0 cs G1 h0 n0 _ T8.heap _
      rw [e8]
      exact ⟨rfl, N8, KQ11_1⟩
    · rw [hh]
      show CHr Z consts_1 s.vm h0 T8.vm T8.heap
      rw [e8]
      exact CHE
  ·
    have hc2 : [(80 : Int32), (111 : Int32), (108 : Int32), (105 : Int32), (99 : Int32), (121 : Int32), (83 : Int32), (101 : Int32), (116 : Int32)] = cs := (hcs.resolve_left (fun q => hc9 q.symm)).symm
    have K12 : ∀ t, Steps p.tables e below (T8.setTop (mkF m 9 #[.val (.ref a0)] [])) t → Steps p.tables e below G0 t := by
      intro t kt
      refine K8 t ?_
      refine XS.ifNo X8.here hx rfl (hb hby d10_6) rfl ((if0 _ _).trans (teq (show own_q [(80 : Int32), (111 : Int32), (108 : Int32), (105 : Int32), (99 : Int32), (121 : Int32)] cs = 0 from if_neg hc9)).2) ?_
      show Steps p.tables e below (T8.setTop (mkF m 9 #[.val (.ref a0)] [])) _
      exact kt
    obtain ⟨a13, T13, h13, kk13, bb13, kc13, X13, e13, E13, hS13, hk13, hZ13, hown13, LE13, LC13, LV13, LA13, la13, lb13, CR13, -, -, st13⟩ := ldcCH X8 hx hZ1 hown1 (hw _ (List.mem_of_getElem? (i := 82) rfl)) (own_wS hw) e8 hS1 hk1 hEL (by decide +kernel) CH1.1 (vs := [(.int (80 : Int32)), (.int (111 : Int32)), (.int (108 : Int32)), (.int (105 : Int32)), (.int (99 : Int32)), (.int (121 : Int32)), (.int (83 : Int32)), (.int (101 : Int32)), (.int (116 : Int32))]) (z := (9 : Int32)) ⟨by decide, by decide⟩ (by decide) (by decide) (g := (mkF m 9 #[.val (.ref a0)] [])) rfl (hb hby d10_9) (n := 36) (by decide) (by decide) (by decide) (by decide)
    have K13 : ∀ t, Steps p.tables e below (T13.setTop (mkF m 11 #[.val (.ref a0)] [(.ref a13)])) t → Steps p.tables e below G0 t := fun t kt => K12 t (st13 _ kt)
    have Z13 : n0 ≤ h13.size := Nat.le_trans Z1 E13.1
    have CH13 := CH1.trans CR13
    have hl13 : ((([(80 : Int32), (111 : Int32), (108 : Int32), (105 : Int32), (99 : Int32), (121 : Int32), (83 : Int32), (101 : Int32), (116 : Int32)] : List Int32).map StrChars.lo8).map Value.int) = [(.int (80 : Int32)), (.int (111 : Int32)), (.int (108 : Int32)), (.int (105 : Int32)), (.int (99 : Int32)), (.int (121 : Int32)), (.int (83 : Int32)), (.int (101 : Int32)), (.int (116 : Int32))] := by decide +kernel
    have sl13 : own_Str Z h13 a13 [(80 : Int32), (111 : Int32), (108 : Int32), (105 : Int32), (99 : Int32), (121 : Int32), (83 : Int32), (101 : Int32), (116 : Int32)] := ⟨LE13, LC13, ⟨_, _, LV13, by rw [hl13]; exact LA13⟩, by decide, by decide⟩
    have K14 : ∀ t, Steps p.tables e below (T13.setTop (mkF m 12 #[.val (.ref a0)] [(.ref a0), (.ref a13)])) t → Steps p.tables e below G0 t := by
      intro t kt
      refine K13 t ?_
      refine XS.aloadN X13.here hx rfl (hb hby d10_11) rfl rfl ?_
      show Steps p.tables e below (T13.setTop (mkF m 12 #[.val (.ref a0)] [(.ref a0), (.ref a13)])) _
      exact kt
    have KQ15_0 := Keep.refl h1 []
    have KQ15_1 := KQ15_0.ext E13
    have s16 := own_Str.keep0 s4 KQ15_1
    obtain ⟨EX17, CX17, ⟨bX17, kX17, VX17, KX17⟩, pX17, lX17⟩ := id sl13
    obtain ⟨EY17, CY17, ⟨bY17, kY17, VY17, KY17⟩, pY17, lY17⟩ := id s16
    have f18 := (f6.ext E13)
    obtain ⟨cq19, kq19, q19a, q19b, q19c⟩ := isOf hZ13 e13 EX17
    obtain ⟨v20, _, ⟨T20, L20, k20, n20⟩, -, X20, ⟨Lc20, hQ20, l20, y20, z20⟩, st20⟩ := X13.virtualBack hx (y := (⟨"java/lang/String", "equals", "(Ljava/lang/Object;)Z"⟩ : MethodName)) (z := (⟨"java/lang/String", "equals", "(Ljava/lang/Object;)Z"⟩ : MethodName)) hown13 (mvT hZ13 (hw _ (List.mem_of_getElem? (i := 51) rfl))) (mvT hZ13 (hw _ (List.mem_of_getElem? (i := 52) rfl))) (notFace_of_selects (args := #[]) (mvT hZ13 (hw _ (List.mem_of_getElem? (i := 54) rfl)))) (mvT hZ13 (hw _ (List.mem_of_getElem? (i := 54) rfl))) (mvT hZ13 (hw _ (List.mem_of_getElem? (i := 53) rfl))) (by decide) (StrChars.Road.eqW (W := 0) hZ13 (own_wsE hw) (kI := 4) (hw _ (List.mem_of_getElem? (i := 8) rfl)) EX17 VX17 CX17 KX17 (StrChars.Road.codOf rfl (fun c hc => (pX17 c hc).2)) (own_up pX17) lX17 EY17 VY17 CY17 KY17 (StrChars.Road.codOf rfl (fun c hc => (pY17 c hc).2)) (own_up pY17) lY17 (O2.ext f18.2) P5 (by decide) (by decide)) q19a q19c (g := (mkF m 12 #[.val (.ref a0)] [(.ref a0), (.ref a13)])) rfl (by rw [hml]; rfl) (Steps.refl _) (argsL := [(.ref a0)]) (rest := []) (lenOf pd_PLjava_lang_Object_QZ rfl) rfl (by show 2 * 0 + _ ≤ _; exact Nat.le_of_eq rfl) (hb hby d10_12) (fun _ _ => ⟨rfl, e13, (by decide : 4 + 0 ≤ _), (by decide : 68 + 0 ≤ _)⟩)
    dsimp only [Pt.U, Pt.locs, Pt.cells, Pt.slots] at X20 l20 y20 z20 st20 hQ20
    subst l20 y20 z20
    obtain ⟨hv20, rfl, e20⟩ := hQ20
    obtain rfl := own_qv hv20
    have N20 := Fr.app N8 (Fr.nil n0)
    have K20 : ∀ t, Steps p.tables e below (T20.setTop (mkF m 15 #[.val (.ref a0)] [(.int (own_q [(80 : Int32), (111 : Int32), (108 : Int32), (105 : Int32), (99 : Int32), (121 : Int32), (83 : Int32), (101 : Int32), (116 : Int32)] cs))])) t → Steps p.tables e below G0 t := fun t kt => K14 t (st20.trans kt)
    have K21 : ∀ t, Steps p.tables e below (T20.setTop (mkF m 33 #[.val (.ref a0)] [(.ref a0)])) t → Steps p.tables e below G0 t := by
      intro t kt
      refine K20 t ?_
      refine XS.ifYes X20.here hx rfl (pc0 := 15) (pc' := 32) rfl (hb hby d10_15) rfl ((if0 _ _).trans (feq (by rw [show own_q [(80 : Int32), (111 : Int32), (108 : Int32), (105 : Int32), (99 : Int32), (121 : Int32), (83 : Int32), (101 : Int32), (116 : Int32)] cs = 1 from if_pos hc2]; decide)).2) (by decide) (by decide) ?_
      show Steps p.tables e below (T20.setTop (mkF m 32 #[.val (.ref a0)] [])) _
      refine XS.aloadN X20.here hx rfl (hb hby d10_32) rfl rfl ?_
      show Steps p.tables e below (T20.setTop (mkF m 33 #[.val (.ref a0)] [(.ref a0)])) _
      exact kt
    have KQ22_0 := Keep.refl h0 []
    have KQ22_1 := KQ22_0.ext E1
    have KQ22_2 := KQ22_1.ext E13
    obtain ⟨fs, hr, hrun, hended, hREW⟩ := X20.leaveW hS13 (by rw [e20]; exact hk13) (v := some (.ref a0)) (fun h => by rw [Bd.returns] at h; cases h)
    have CHE := CH13.trans (CHv.at X20 hZ13 hEL CH13.1)
    refine ⟨_, _, ?_, hrun, hended, _, _, rfl, ?_, ?_, hREW.1, hREW.2.1, hREW.2.2.1, hREW.2.2.2.mono (by decide) (by decide)⟩
    · rw [← hG0]
      refine K21 _ ?_
      exact retOut X20 hx (t := (.object "java/lang/String")) Bd.returns rfl (Or.inr (Or.inr (Or.inr (Or.inr ⟨rfl, rfl, rfl⟩)))) (hb hby d10_33) hr
    · show Q10 Z a0 cs G1 h0 n0 _ T20.heap _
      rw [e20]
      exact ⟨rfl, N20, KQ22_2⟩
    · rw [hh]
      show CHr Z consts_1 s.vm h0 T20.vm T20.heap
      rw [e20]
      exact CHE
theorem d13_0 : decode jdk_31_method_11_code 0 = .ok (.aload_n 0, 1) := by decide +kernel
theorem d13_1 : decode jdk_31_method_11_code 1 = .ok (.ifnonnull 12, 3) := by decide +kernel
theorem d13_4 : decode jdk_31_method_11_code 4 = .ok (.new 84, 3) := by decide +kernel
theorem d13_7 : decode jdk_31_method_11_code 7 = .ok (.dup, 1) := by decide +kernel
theorem d13_8 : decode jdk_31_method_11_code 8 = .ok (.aload_n 1, 1) := by decide +kernel
theorem d13_9 : decode jdk_31_method_11_code 9 = .ok (.invokespecial 87, 3) := by decide +kernel
theorem d13_12 : decode jdk_31_method_11_code 12 = .ok (.athrow, 1) := by decide +kernel
theorem d13_13 : decode jdk_31_method_11_code 13 = .ok (.aload_n 0, 1) := by decide +kernel
theorem d13_14 : decode jdk_31_method_11_code 14 = .ok (.areturn, 1) := by decide +kernel
theorem pn_java_util_Objects : plainName "java/util/Objects" = true := by first | (simp [plainName, overriddenIn]; done) | decide +kernel
theorem ef_rm13 (m : MethodId) (a0 : Addr) (a1 : Addr) : entryFrame m #[(.ref a0), (.ref a1)] 2 = (mkF m 0 #[.val (.ref a0), .val (.ref a1)] []) := by first | (simp [entryFrame, mkF, argsToLocals, Value.category]; done) | rfl
def Q13 (Z : State) (a0 : Addr) (a1 : Addr) (h0 : Heap) (n0 : Nat) (v : Option Value) (h : Heap) (L : List Loc) : Prop := v = some (.ref a0) ∧ Fr n0 L ∧ h = h0
set_option maxRecDepth 65536 in
set_option maxHeartbeats 40000000 in
theorem rm13 (l : Launch) (Z : State) (aa : Array Value) (hw : ∀ d ∈ tables_1, d.before aa Z = true) (ws : List Jvm.Cond) (a0 : Addr) (a1 : Addr) (h0 : Heap) (n0 : Nat) (Z0 : n0 ≤ h0.size) :
    MetFree l (⟨"java/util/Objects", "requireNonNull", "(Ljava/lang/Object;Ljava/lang/String;)Ljava/lang/Object;"⟩ : MethodName) (head1 (Jvm.Cond.code (⟨"java/util/Objects", "requireNonNull", "(Ljava/lang/Object;Ljava/lang/String;)Ljava/lang/Object;"⟩ : MethodName) jdk_31_method_11_code 2 (some (.object "java/lang/Object")) :: ws) ({ frames := 0, cells := 0, slots := 0, locals := 0 } : Room)) (fun a U => a = #[(.ref a0), (.ref a1)] ∧ Z.Warmed39 U.vm ∧ U.heap = h0) (fun _ _ _ _ _ => True) (fun _ U o U' => ∃ v L, o = .returned v ∧ Q13 Z a0 a1 h0 n0 v U'.heap L ∧ FrameEnd U o U' L ({ frames := 0, cells := 0, slots := 0, locals := 0 } : Room).cells ({ frames := 0, cells := 0, slots := 0, locals := 0 } : Room).slots) := by
  refine MetFree.of_bodySF (plainFor_of_name pn_java_util_Objects) hisR ?_
  intro p e s m args below meth c s₁ Bd hml0 hP hK
  obtain ⟨rfl, hZ, hh⟩ := hP
  have hx := Bd.exec
  have hby := Bd.bytes
  have hml : c.maxLocals = 2 := hml0
  have hown : s.vm.findClass "java/util/Objects" = some m.cls := findClass_of_methodNamed Bd.named
  have hnm := (name_of_methodNamed Bd.named Bd.method).1
  have X0 : Stand p l e ({ frames := 0, cells := 0, slots := 0, locals := 0 } : Room) s m #[(.ref a0), (.ref a1)] below meth c s₁ [] 0 0 := Stand.of_body Bd
  have e0 : s₁.heap = h0 := by rw [← hh, Bd.state]; rfl
  have N0 := Fr.nil n0
  obtain ⟨G0, hG0⟩ : ∃ G, G = s₁.setTop (entryFrame m #[(.ref a0), (.ref a1)] 2) := ⟨_, rfl⟩
  have K0 : ∀ t, Steps p.tables e below (s₁.setTop (mkF m 0 #[.val (.ref a0), .val (.ref a1)] [])) t → Steps p.tables e below G0 t := fun t k => by rw [hG0]; exact castTop (ef_rm13 m a0 a1) k
  have K1 : ∀ t, Steps p.tables e below (s₁.setTop (mkF m 14 #[.val (.ref a0), .val (.ref a1)] [(.ref a0)])) t → Steps p.tables e below G0 t := by
    intro t kt
    refine K0 t ?_
    refine XS.aloadN X0.here hx rfl (hb hby d13_0) rfl rfl ?_
    show Steps p.tables e below (s₁.setTop (mkF m 1 #[.val (.ref a0), .val (.ref a1)] [(.ref a0)])) _
    refine XS.ifnonnullYes X0.here hx rfl (pc0 := 1) (pc' := 13) rfl (hb hby d13_1) rfl (by decide) (by decide) ?_
    show Steps p.tables e below (s₁.setTop (mkF m 13 #[.val (.ref a0), .val (.ref a1)] [])) _
    refine XS.aloadN X0.here hx rfl (hb hby d13_13) rfl rfl ?_
    show Steps p.tables e below (s₁.setTop (mkF m 14 #[.val (.ref a0), .val (.ref a1)] [(.ref a0)])) _
    exact kt
  obtain ⟨fs, hr, hrun, hended, hW, hsame⟩ := X0.leave (v := some (.ref a0)) (fun h => by rw [Bd.returns] at h; cases h)
  refine ⟨_, _, ?_, hrun, hended, _, _, rfl, ?_, ⟨_, rfl⟩, hW, hsame.mono (by decide) (by decide)⟩
  · rw [← hG0]
    refine K1 _ ?_
    exact retOut X0 hx (t := (.object "java/lang/Object")) Bd.returns rfl (Or.inr (Or.inr (Or.inr (Or.inr ⟨rfl, rfl, rfl⟩)))) (hb hby d13_14) hr
  · show Q13 Z a0 a1 h0 n0 _ s₁.heap _
    rw [e0]
    exact ⟨rfl, N0, rfl⟩
theorem d9_0 : decode prog_143_method_1_code 0 = .ok (.aload_n 0, 1) := by decide +kernel
theorem d9_1 : decode prog_143_method_1_code 1 = .ok (.invokespecial 1, 3) := by decide +kernel
theorem d9_4 : decode prog_143_method_1_code 4 = .ok (.aload_n 0, 1) := by decide +kernel
theorem d9_5 : decode prog_143_method_1_code 5 = .ok (.aload_n 1, 1) := by decide +kernel
theorem d9_6 : decode prog_143_method_1_code 6 = .ok (.invokestatic 7, 3) := by decide +kernel
theorem d9_9 : decode prog_143_method_1_code 9 = .ok (.putfield 13, 3) := by decide +kernel
theorem d9_12 : decode prog_143_method_1_code 12 = .ok (.aload_n 0, 1) := by decide +kernel
theorem d9_13 : decode prog_143_method_1_code 13 = .ok (.aload_n 2, 1) := by decide +kernel
theorem d9_14 : decode prog_143_method_1_code 14 = .ok (.ldc 17, 2) := by decide +kernel
theorem d9_16 : decode prog_143_method_1_code 16 = .ok (.invokestatic 19, 3) := by decide +kernel
theorem d9_19 : decode prog_143_method_1_code 19 = .ok (.checkcast 25, 3) := by decide +kernel
theorem d9_22 : decode prog_143_method_1_code 22 = .ok (.putfield 27, 3) := by decide +kernel
theorem d9_25 : decode prog_143_method_1_code 25 = .ok (.aload_n 0, 1) := by decide +kernel
theorem d9_26 : decode prog_143_method_1_code 26 = .ok (.aload_n 3, 1) := by decide +kernel
theorem d9_27 : decode prog_143_method_1_code 27 = .ok (.ldc 29, 2) := by decide +kernel
theorem d9_29 : decode prog_143_method_1_code 29 = .ok (.invokestatic 19, 3) := by decide +kernel
theorem d9_32 : decode prog_143_method_1_code 32 = .ok (.checkcast 25, 3) := by decide +kernel
theorem d9_35 : decode prog_143_method_1_code 35 = .ok (.putfield 31, 3) := by decide +kernel
theorem d9_38 : decode prog_143_method_1_code 38 = .ok (.return_, 1) := by decide +kernel
theorem pd_PLjava_lang_String_QLjava_lang_String_ : parseMethodDescriptor "(Ljava/lang/String;)Ljava/lang/String;" = some ⟨[(.object "java/lang/String")], some (.object "java/lang/String")⟩ := by decide +kernel
theorem pd_PLjava_lang_Object_Ljava_lang_String_QLjava_lang_Object_ : parseMethodDescriptor "(Ljava/lang/Object;Ljava/lang/String;)Ljava/lang/Object;" = some ⟨[(.object "java/lang/Object"), (.object "java/lang/String")], some (.object "java/lang/Object")⟩ := by decide +kernel
theorem ef_rm9 (m : MethodId) (a0 : Addr) (a1 : Addr) (a2 : Addr) (a3 : Addr) : entryFrame m #[(.ref a0), (.ref a1), (.ref a2), (.ref a3)] 4 = (mkF m 0 #[.val (.ref a0), .val (.ref a1), .val (.ref a2), .val (.ref a3)] []) := by first | (simp [entryFrame, mkF, argsToLocals, Value.category]; done) | rfl
def Q9 (Z : State) (a0 : Addr) (a1 : Addr) (a2 : Addr) (a3 : Addr) (u_kind : Value) (u_id : Value) (u_version : Value) (ck : List Int32) (G1 : Int32) (h0 : Heap) (n0 : Nat) (v : Option Value) (h : Heap) (L : List Loc) : Prop := v = none ∧ Fr n0 L ∧ Keep h0 h [a0] ∧ Exa Z h a0 "com/example/lichen/lichen/model/PolicyIdentifier" ∧ Fld Z h a0 "com/example/lichen/lichen/model/PolicyIdentifier" "kind" "Ljava/lang/String;" (.ref a1) ∧ Fld Z h a0 "com/example/lichen/lichen/model/PolicyIdentifier" "id" "Ljava/lang/String;" (.ref a2) ∧ Fld Z h a0 "com/example/lichen/lichen/model/PolicyIdentifier" "version" "Ljava/lang/String;" (.ref a3)
set_option maxRecDepth 65536 in
set_option maxHeartbeats 40000000 in
theorem rm9 (l : Launch) (Z : State) (aa : Array Value) (hw : ∀ d ∈ tables_1, d.before aa Z = true) (hEL : EW Z aa consts_1) (ws : List Jvm.Cond) (a0 : Addr) (a1 : Addr) (a2 : Addr) (a3 : Addr) (u_kind : Value) (u_id : Value) (u_version : Value) (ck : List Int32) (G1 : Int32) (h0 : Heap) (n0 : Nat) (Z0 : n0 ≤ h0.size) (O2 : Sta Z Z.heap "java/lang/String" "COMPACT_STRINGS" "Z" (.int G1)) (P5 : ¬ (G1 = (0 : Int32))) (HO : Old Z n0 h0) (gn : n0 ≤ a0) (E0 : Exa Z h0 a0 "com/example/lichen/lichen/model/PolicyIdentifier") (F_kind : Fld Z h0 a0 "com/example/lichen/lichen/model/PolicyIdentifier" "kind" "Ljava/lang/String;" u_kind) (F_id : Fld Z h0 a0 "com/example/lichen/lichen/model/PolicyIdentifier" "id" "Ljava/lang/String;" u_id) (F_version : Fld Z h0 a0 "com/example/lichen/lichen/model/PolicyIdentifier" "version" "Ljava/lang/String;" u_version) (S1 : own_Str Z h0 a1 ck) (hck : ck = own_pol ∨ ck = own_set) (E2 : Exa Z h0 a2 "java/lang/String") (E3 : Exa Z h0 a3 "java/lang/String") :
    MetFree l (⟨"com/example/lichen/lichen/model/PolicyIdentifier", "<init>", "(Ljava/lang/String;Ljava/lang/String;Ljava/lang/String;)V"⟩ : MethodName) (head1 (Jvm.Cond.code (⟨"com/example/lichen/lichen/model/PolicyIdentifier", "<init>", "(Ljava/lang/String;Ljava/lang/String;Ljava/lang/String;)V"⟩ : MethodName) prog_143_method_1_code 4 none :: ws) ({ frames := 3, cells := 8, slots := 112, locals := 41 } : Room)) (fun a U => a = #[(.ref a0), (.ref a1), (.ref a2), (.ref a3)] ∧ Z.Warmed39 U.vm ∧ U.heap = h0 ∧ CHv Z consts_1 U.vm h0) (fun _ _ _ _ _ => True) (fun _ U o U' => ∃ v L, o = .returned v ∧ Q9 Z a0 a1 a2 a3 u_kind u_id u_version ck G1 h0 n0 v U'.heap L ∧ CHr Z consts_1 U.vm U.heap U'.vm U'.heap ∧ ReturnedEndW U o U' L ({ frames := 3, cells := 8, slots := 112, locals := 41 } : Room).cells ({ frames := 3, cells := 8, slots := 112, locals := 41 } : Room).slots) := by
  refine MetFree.of_bodySF (plainFor_of_name pn_com_example_lichen_lichen_model_PolicyIdentifier) hisR ?_
  intro p e s m args below meth c s₁ Bd hml0 hP hK
  obtain ⟨rfl, hZ, hh, hCH⟩ := hP
  have hx := Bd.exec
  have hby := Bd.bytes
  have hml : c.maxLocals = 4 := hml0
  have hown : s.vm.findClass "com/example/lichen/lichen/model/PolicyIdentifier" = some m.cls := findClass_of_methodNamed Bd.named
  have hnm := (name_of_methodNamed Bd.named Bd.method).1
  have X0 : Stand p l e ({ frames := 3, cells := 8, slots := 112, locals := 41 } : Room) (s.setVm s.vm) m #[(.ref a0), (.ref a1), (.ref a2), (.ref a3)] below meth c s₁ [] 0 0 := (Stand.of_body Bd : Stand p l e ({ frames := 3, cells := 8, slots := 112, locals := 41 } : Room) s m #[(.ref a0), (.ref a1), (.ref a2), (.ref a3)] below meth c s₁ [] 0 0)
  have hS0 : s.Since s.vm h0.size := (State.WarmedH.refl s).since _
  have hk0 : h0.size ≤ h0.size := Nat.le_refl _
  have CH0 : CHr Z consts_1 s.vm h0 s.vm h0 := CHr.refl hCH
  have e0 : s₁.heap = h0 := by rw [← hh, Bd.state]; rfl
  have N0 := Fr.nil n0
  obtain ⟨G0, hG0⟩ : ∃ G, G = s₁.setTop (entryFrame m #[(.ref a0), (.ref a1), (.ref a2), (.ref a3)] 4) := ⟨_, rfl⟩
  have K0 : ∀ t, Steps p.tables e below (s₁.setTop (mkF m 0 #[.val (.ref a0), .val (.ref a1), .val (.ref a2), .val (.ref a3)] [])) t → Steps p.tables e below G0 t := fun t k => by rw [hG0]; exact castTop (ef_rm9 m a0 a1 a2 a3) k
  have K1 : ∀ t, Steps p.tables e below (s₁.setTop (mkF m 1 #[.val (.ref a0), .val (.ref a1), .val (.ref a2), .val (.ref a3)] [(.ref a0)])) t → Steps p.tables e below G0 t := by
    intro t kt
    refine K0 t ?_
    refine XS.aloadN X0.here hx rfl (hb hby d9_0) rfl rfl ?_
    show Steps p.tables e below (s₁.setTop (mkF m 1 #[.val (.ref a0), .val (.ref a1), .val (.ref a2), .val (.ref a3)] [(.ref a0)])) _
    exact kt
  obtain ⟨T2, X2, e2, st2⟩ := initO X0 hx hZ hown (hw _ (List.mem_of_getElem? (i := 46) rfl)) (hw _ (List.mem_of_getElem? (i := 19) rfl)) (hw _ (List.mem_of_getElem? (i := 20) rfl)) e0 (g := (mkF m 1 #[.val (.ref a0), .val (.ref a1), .val (.ref a2), .val (.ref a3)] [(.ref a0)])) rfl (by rw [hml]; rfl) rfl (hb hby d9_1) (by decide) (W := 0) (by show 2 * 0 + _ ≤ _; exact Nat.le_of_eq rfl) (by decide)
  have K2 : ∀ t, Steps p.tables e below (T2.setTop (mkF m 4 #[.val (.ref a0), .val (.ref a1), .val (.ref a2), .val (.ref a3)] [])) t → Steps p.tables e below G0 t := fun t kt => K1 t (st2 _ kt)
  have K3 : ∀ t, Steps p.tables e below (T2.setTop (mkF m 6 #[.val (.ref a0), .val (.ref a1), .val (.ref a2), .val (.ref a3)] [(.ref a1), (.ref a0)])) t → Steps p.tables e below G0 t := by
    intro t kt
    refine K2 t ?_
    refine XS.aloadN X2.here hx rfl (hb hby d9_4) rfl rfl ?_
    show Steps p.tables e below (T2.setTop (mkF m 5 #[.val (.ref a0), .val (.ref a1), .val (.ref a2), .val (.ref a3)] [(.ref a0)])) _
    refine XS.aloadN X2.here hx rfl (hb hby d9_5) rfl rfl ?_
    show Steps p.tables e below (T2.setTop (mkF m 6 #[.val (.ref a0), .val (.ref a1), .val (.ref a2), .val (.ref a3)] [(.ref a1), (.ref a0)])) _
    exact kt
  obtain ⟨v4, _, ⟨T4, L4, k4, n4⟩, -, Xq4, S24, g24, ⟨Lc4, hQ4, l4, y4, z4, CR4⟩, st4⟩ := callSS X2 hx (y := (⟨"com/example/lichen/lichen/model/PolicyIdentifier", "requireKind", "(Ljava/lang/String;)Ljava/lang/String;"⟩ : MethodName)) hown (mvT hZ (hw _ (List.mem_of_getElem? (i := 47) rfl))) (mvT hZ (hw _ (List.mem_of_getElem? (i := 48) rfl))) (mvT hZ (hw _ (List.mem_of_getElem? (i := 2) rfl))) (mvT hZ (hw _ (List.mem_of_getElem? (i := 49) rfl))) (by decide) (backOfSH (W := 1) (rm10 l Z aa hw hEL [] (a1) ck G1 h0 n0 Z0 O2 P5 HO S1 hck) hZ (hw _ (List.mem_of_getElem? (i := 49) rfl)) (hw _ (List.mem_of_getElem? (i := 2) rfl)) (by decide) (by decide) hEL CH0.1) (g := (mkF m 6 #[.val (.ref a0), .val (.ref a1), .val (.ref a2), .val (.ref a3)] [(.ref a1), (.ref a0)])) rfl (by rw [hml]; rfl) (argsL := [(.ref a1)]) (rest := [(.ref a0)]) (lenOf pd_PLjava_lang_String_QLjava_lang_String_ rfl) rfl (by show 2 * 0 + _ ≤ _; exact Nat.le_of_eq rfl) (hb hby d9_6) (fun _ _ => ⟨rfl, e2, (by decide : 0 + 4 ≤ _), (by decide : 0 + 68 ≤ _)⟩)
  dsimp only [Pt.U, Pt.locs, Pt.cells, Pt.slots] at Xq4 S24 g24 l4 y4 z4 st4 hQ4 CR4
  subst l4 y4 z4
  obtain ⟨X4, hS4, hZ4, hown4⟩ := rebS hS0 (show _ ≤ T2.heap.size by rw [e2]; exact hk0) Xq4 S24 g24 hZ hown
  have hk4 : T4.heap.size ≤ T4.heap.size := Nat.le_refl _
  have CH4 := CH0.trans CR4
  obtain ⟨rfl, N4q, KV4⟩ := hQ4
  have N4 := Fr.app N0 N4q
  have K4 : ∀ t, Steps p.tables e below (T4.setTop (mkF m 9 #[.val (.ref a0), .val (.ref a1), .val (.ref a2), .val (.ref a3)] [(.ref a1), (.ref a0)])) t → Steps p.tables e below G0 t := fun t kt => K3 t (st4.trans kt)
  have Z4 : n0 ≤ T4.heap.size := Nat.le_trans Z0 KV4.1
  have f5 := (E0.keep KV4)
  have f6 := (F_kind.keep KV4 (fun q => nomatch q))
  obtain ⟨T7, h7, X7, e7, W7, st7⟩ := putF X4 hx hZ4 hown4 (host := "") (Or.inl (hw _ (List.mem_of_getElem? (i := 61) rfl))) Via.refl (rfl : T4.heap = _) f6 f5 (Or.inr ⟨(hw _ (List.mem_of_getElem? (i := 62) rfl)), rfl, hnm⟩) (hw _ (List.mem_of_getElem? (i := 1) rfl)) (ty := (.object "java/lang/String")) (by decide) rfl rfl (g := (mkF m 9 #[.val (.ref a0), .val (.ref a1), .val (.ref a2), .val (.ref a3)] [(.ref a1), (.ref a0)])) rfl rfl (hb hby d9_9)
  have K7 : ∀ t, Steps p.tables e below (T7.setTop (mkF m 12 #[.val (.ref a0), .val (.ref a1), .val (.ref a2), .val (.ref a3)] [])) t → Steps p.tables e below G0 t := fun t kt => K4 t (st7 _ kt)
  have Fw7 := (f6).same W7
  have N7 := Fr.snoc X7 N4 gn
  have Z7 : n0 ≤ h7.size := Nat.le_trans Z4 (Keep.of_wr W7).1
  have K8 : ∀ t, Steps p.tables e below (T7.setTop (mkF m 14 #[.val (.ref a0), .val (.ref a1), .val (.ref a2), .val (.ref a3)] [(.ref a2), (.ref a0)])) t → Steps p.tables e below G0 t := by
    intro t kt
    refine K7 t ?_
    refine XS.aloadN X7.here hx rfl (hb hby d9_12) rfl rfl ?_
    show Steps p.tables e below (T7.setTop (mkF m 13 #[.val (.ref a0), .val (.ref a1), .val (.ref a2), .val (.ref a3)] [(.ref a0)])) _
    refine XS.aloadN X7.here hx rfl (hb hby d9_13) rfl rfl ?_
    show Steps p.tables e below (T7.setTop (mkF m 14 #[.val (.ref a0), .val (.ref a1), .val (.ref a2), .val (.ref a3)] [(.ref a2), (.ref a0)])) _
    exact kt
  have KQ9_0 := Keep.refl T4.heap [a0]
  have KQ9_1 := KQ9_0.wr W7 (Or.inl (List.mem_of_getElem? (i := 0) rfl))
  have CH10 := CH4.trans (CHr.keep KQ9_1 (sfS (Safe.exa hZ4.alike f5 (by decide) (by decide)) sf0) CH4.1)
  have f11 := (f5.wr W7)
  have f12 := (Nat.le_trans hk4 (Keep.of_wr W7).1)
  obtain ⟨a13, T13, h13, kk13, bb13, kc13, X13, e13, E13, hS13, hk13, hZ13, hown13, LE13, LC13, LV13, LA13, la13, lb13, CR13, -, -, st13⟩ := ldcCH X7 hx hZ4 hown4 (hw _ (List.mem_of_getElem? (i := 63) rfl)) (own_wS hw) e7 hS4 f12 hEL (by decide +kernel) CH10.1 (vs := [(.int (105 : Int32)), (.int (100 : Int32))]) (z := (2 : Int32)) ⟨by decide, by decide⟩ (by decide) (by decide) (g := (mkF m 14 #[.val (.ref a0), .val (.ref a1), .val (.ref a2), .val (.ref a3)] [(.ref a2), (.ref a0)])) rfl (hb hby d9_14) (n := 8) (by decide) (by decide) (by decide) (by decide)
  have K13 : ∀ t, Steps p.tables e below (T13.setTop (mkF m 16 #[.val (.ref a0), .val (.ref a1), .val (.ref a2), .val (.ref a3)] [(.ref a13), (.ref a2), (.ref a0)])) t → Steps p.tables e below G0 t := fun t kt => K8 t (st13 _ kt)
  have Z13 : n0 ≤ h13.size := Nat.le_trans Z7 E13.1
  have CH13 := CH10.trans CR13
  have f14 := (f11.ext E13)
  obtain ⟨v15, _, ⟨T15, L15, k15, n15⟩, -, X15, ⟨Lc15, hQ15, l15, y15, z15⟩, st15⟩ := Jvm.LawKit.callS X13 hx (y := (⟨"java/util/Objects", "requireNonNull", "(Ljava/lang/Object;Ljava/lang/String;)Ljava/lang/Object;"⟩ : MethodName)) hown13 (mvT hZ13 (hw _ (List.mem_of_getElem? (i := 64) rfl))) (mvT hZ13 (hw _ (List.mem_of_getElem? (i := 65) rfl))) (mvT hZ13 (hw _ (List.mem_of_getElem? (i := 66) rfl))) (mvT hZ13 (hw _ (List.mem_of_getElem? (i := 67) rfl))) (by decide) (backOf (W := 1) (rm13 l Z aa hw [] (a2) (a13)  h13 n0 Z13 ) hZ13 (hw _ (List.mem_of_getElem? (i := 67) rfl)) (hw _ (List.mem_of_getElem? (i := 66) rfl)) (by decide) (by decide)) (g := (mkF m 16 #[.val (.ref a0), .val (.ref a1), .val (.ref a2), .val (.ref a3)] [(.ref a13), (.ref a2), (.ref a0)])) rfl (by rw [hml]; rfl) (argsL := [(.ref a2), (.ref a13)]) (rest := [(.ref a0)]) (lenOf pd_PLjava_lang_Object_Ljava_lang_String_QLjava_lang_Object_ rfl) rfl (by show 2 * 0 + _ ≤ _; exact Nat.le_of_eq rfl) (hb hby d9_16) (fun _ _ => ⟨rfl, e13, (by decide : 6 + 0 ≤ _), (by decide : 80 + 0 ≤ _)⟩)
  dsimp only [Pt.U, Pt.locs, Pt.cells, Pt.slots] at X15 l15 y15 z15 st15 hQ15
  subst l15 y15 z15
  obtain ⟨rfl, N15q, e15⟩ := hQ15
  have N15 := Fr.app N7 N15q
  have K15 : ∀ t, Steps p.tables e below (T15.setTop (mkF m 19 #[.val (.ref a0), .val (.ref a1), .val (.ref a2), .val (.ref a3)] [(.ref a2), (.ref a0)])) t → Steps p.tables e below G0 t := fun t kt => K13 t (st15 _ kt)
  have f16 := (((E2.keep KV4).wr W7).ext E13)
  obtain ⟨T17, X17, e17, st17⟩ := castY X15 hx hZ13 hown13 (hw _ (List.mem_of_getElem? (i := 68) rfl)) e15 (Ins.self f16) (g := (mkF m 19 #[.val (.ref a0), .val (.ref a1), .val (.ref a2), .val (.ref a3)] [(.ref a2), (.ref a0)])) rfl rfl (hb hby d9_19)
  have K17 : ∀ t, Steps p.tables e below (T17.setTop (mkF m 22 #[.val (.ref a0), .val (.ref a1), .val (.ref a2), .val (.ref a3)] [(.ref a2), (.ref a0)])) t → Steps p.tables e below G0 t := fun t kt => K15 t (st17 _ kt)
  have f18 := (((F_id.keep KV4 (fun q => nomatch q)).other W7 (Or.inr (slot_ne (Or.inr (hw _ (List.mem_of_getElem? (i := 70) rfl))) (Or.inr (hw _ (List.mem_of_getElem? (i := 62) rfl))) (by decide) (t := (.object "java/lang/String")) (t' := (.object "java/lang/String")) (by decide) (by decide)))).ext E13)
  obtain ⟨T19, h19, X19, e19, W19, st19⟩ := putF X17 hx hZ13 hown13 (host := "") (Or.inl (hw _ (List.mem_of_getElem? (i := 69) rfl))) Via.refl e17 f18 f14 (Or.inr ⟨(hw _ (List.mem_of_getElem? (i := 70) rfl)), rfl, hnm⟩) (hw _ (List.mem_of_getElem? (i := 1) rfl)) (ty := (.object "java/lang/String")) (by decide) rfl rfl (g := (mkF m 22 #[.val (.ref a0), .val (.ref a1), .val (.ref a2), .val (.ref a3)] [(.ref a2), (.ref a0)])) rfl rfl (hb hby d9_22)
  have K19 : ∀ t, Steps p.tables e below (T19.setTop (mkF m 25 #[.val (.ref a0), .val (.ref a1), .val (.ref a2), .val (.ref a3)] [])) t → Steps p.tables e below G0 t := fun t kt => K17 t (st19 _ kt)
  have Fw19 := (f18).same W19
  have N19 := Fr.snoc X19 N15 gn
  have Z19 : n0 ≤ h19.size := Nat.le_trans Z13 (Keep.of_wr W19).1
  have K20 : ∀ t, Steps p.tables e below (T19.setTop (mkF m 27 #[.val (.ref a0), .val (.ref a1), .val (.ref a2), .val (.ref a3)] [(.ref a3), (.ref a0)])) t → Steps p.tables e below G0 t := by
    intro t kt
    refine K19 t ?_
    refine XS.aloadN X19.here hx rfl (hb hby d9_25) rfl rfl ?_
    show Steps p.tables e below (T19.setTop (mkF m 26 #[.val (.ref a0), .val (.ref a1), .val (.ref a2), .val (.ref a3)] [(.ref a0)])) _
    refine XS.aloadN X19.here hx rfl (hb hby d9_26) rfl rfl ?_
    show Steps p.tables e below (T19.setTop (mkF m 27 #[.val (.ref a0), .val (.ref a1), .val (.ref a2), .val (.ref a3)] [(.ref a3), (.ref a0)])) _
    exact kt
  have KQ21_0 := Keep.refl h13 [a0]
  have KQ21_1 := KQ21_0.wr W19 (Or.inl (List.mem_of_getElem? (i := 0) rfl))
  have CH22 := CH13.trans (CHr.keep KQ21_1 (sfS (Safe.exa hZ13.alike f14 (by decide) (by decide)) sf0) CH13.1)
  have f23 := (f14.wr W19)
  have f24 := (Nat.le_trans hk13 (Keep.of_wr W19).1)
  obtain ⟨a25, T25, h25, kk25, bb25, kc25, X25, e25, E25, hS25, hk25, hZ25, hown25, LE25, LC25, LV25, LA25, la25, lb25, CR25, -, -, st25⟩ := ldcCH X19 hx hZ13 hown13 (hw _ (List.mem_of_getElem? (i := 71) rfl)) (own_wS hw) e19 hS13 f24 hEL (by decide +kernel) CH22.1 (vs := [(.int (118 : Int32)), (.int (101 : Int32)), (.int (114 : Int32)), (.int (115 : Int32)), (.int (105 : Int32)), (.int (111 : Int32)), (.int (110 : Int32))]) (z := (7 : Int32)) ⟨by decide, by decide⟩ (by decide) (by decide) (g := (mkF m 27 #[.val (.ref a0), .val (.ref a1), .val (.ref a2), .val (.ref a3)] [(.ref a3), (.ref a0)])) rfl (hb hby d9_27) (n := 28) (by decide) (by decide) (by decide) (by decide)
  have K25 : ∀ t, Steps p.tables e below (T25.setTop (mkF m 29 #[.val (.ref a0), .val (.ref a1), .val (.ref a2), .val (.ref a3)] [(.ref a25), (.ref a3), (.ref a0)])) t → Steps p.tables e below G0 t := fun t kt => K20 t (st25 _ kt)
  have Z25 : n0 ≤ h25.size := Nat.le_trans Z19 E25.1
  have CH25 := CH22.trans CR25
  have f26 := (f23.ext E25)
  obtain ⟨v27, _, ⟨T27, L27, k27, n27⟩, -, X27, ⟨Lc27, hQ27, l27, y27, z27⟩, st27⟩ := Jvm.LawKit.callS X25 hx (y := (⟨"java/util/Objects", "requireNonNull", "(Ljava/lang/Object;Ljava/lang/String;)Ljava/lang/Object;"⟩ : MethodName)) hown25 (mvT hZ25 (hw _ (List.mem_of_getElem? (i := 64) rfl))) (mvT hZ25 (hw _ (List.mem_of_getElem? (i := 65) rfl))) (mvT hZ25 (hw _ (List.mem_of_getElem? (i := 66) rfl))) (mvT hZ25 (hw _ (List.mem_of_getElem? (i := 67) rfl))) (by decide) (backOf (W := 1) (rm13 l Z aa hw [] (a3) (a25)  h25 n0 Z25 ) hZ25 (hw _ (List.mem_of_getElem? (i := 67) rfl)) (hw _ (List.mem_of_getElem? (i := 66) rfl)) (by decide) (by decide)) (g := (mkF m 29 #[.val (.ref a0), .val (.ref a1), .val (.ref a2), .val (.ref a3)] [(.ref a25), (.ref a3), (.ref a0)])) rfl (by rw [hml]; rfl) (argsL := [(.ref a3), (.ref a25)]) (rest := [(.ref a0)]) (lenOf pd_PLjava_lang_Object_Ljava_lang_String_QLjava_lang_Object_ rfl) rfl (by show 2 * 0 + _ ≤ _; exact Nat.le_of_eq rfl) (hb hby d9_29) (fun _ _ => ⟨rfl, e25, (by decide : 8 + 0 ≤ _), (by decide : 112 + 0 ≤ _)⟩)
  dsimp only [Pt.U, Pt.locs, Pt.cells, Pt.slots] at X27 l27 y27 z27 st27 hQ27
  subst l27 y27 z27
  obtain ⟨rfl, N27q, e27⟩ := hQ27
  have N27 := Fr.app N19 N27q
  have K27 : ∀ t, Steps p.tables e below (T27.setTop (mkF m 32 #[.val (.ref a0), .val (.ref a1), .val (.ref a2), .val (.ref a3)] [(.ref a3), (.ref a0)])) t → Steps p.tables e below G0 t := fun t kt => K25 t (st27 _ kt)
  have f28 := (((((E3.keep KV4).wr W7).ext E13).wr W19).ext E25)
  obtain ⟨T29, X29, e29, st29⟩ := castY X27 hx hZ25 hown25 (hw _ (List.mem_of_getElem? (i := 68) rfl)) e27 (Ins.self f28) (g := (mkF m 32 #[.val (.ref a0), .val (.ref a1), .val (.ref a2), .val (.ref a3)] [(.ref a3), (.ref a0)])) rfl rfl (hb hby d9_32)
  have K29 : ∀ t, Steps p.tables e below (T29.setTop (mkF m 35 #[.val (.ref a0), .val (.ref a1), .val (.ref a2), .val (.ref a3)] [(.ref a3), (.ref a0)])) t → Steps p.tables e below G0 t := fun t kt => K27 t (st29 _ kt)
  have f30 := (((((F_version.keep KV4 (fun q => nomatch q)).other W7 (Or.inr (slot_ne (Or.inr (hw _ (List.mem_of_getElem? (i := 73) rfl))) (Or.inr (hw _ (List.mem_of_getElem? (i := 62) rfl))) (by decide) (t := (.object "java/lang/String")) (t' := (.object "java/lang/String")) (by decide) (by decide)))).ext E13).other W19 (Or.inr (slot_ne (Or.inr (hw _ (List.mem_of_getElem? (i := 73) rfl))) (Or.inr (hw _ (List.mem_of_getElem? (i := 70) rfl))) (by decide) (t := (.object "java/lang/String")) (t' := (.object "java/lang/String")) (by decide) (by decide)))).ext E25)
  obtain ⟨T31, h31, X31, e31, W31, st31⟩ := putF X29 hx hZ25 hown25 (host := "") (Or.inl (hw _ (List.mem_of_getElem? (i := 72) rfl))) Via.refl e29 f30 f26 (Or.inr ⟨(hw _ (List.mem_of_getElem? (i := 73) rfl)), rfl, hnm⟩) (hw _ (List.mem_of_getElem? (i := 1) rfl)) (ty := (.object "java/lang/String")) (by decide) rfl rfl (g := (mkF m 35 #[.val (.ref a0), .val (.ref a1), .val (.ref a2), .val (.ref a3)] [(.ref a3), (.ref a0)])) rfl rfl (hb hby d9_35)
  have K31 : ∀ t, Steps p.tables e below (T31.setTop (mkF m 38 #[.val (.ref a0), .val (.ref a1), .val (.ref a2), .val (.ref a3)] [])) t → Steps p.tables e below G0 t := fun t kt => K29 t (st31 _ kt)
  have Fw31 := (f30).same W31
  have N31 := Fr.snoc X31 N27 gn
  have Z31 : n0 ≤ h31.size := Nat.le_trans Z25 (Keep.of_wr W31).1
  have KQ32_0 := Keep.refl h0 [a0]
  have KQ32_1 := KQ32_0.trans KV4 (fun x hx => nomatch hx)
  have KQ32_2 := KQ32_1.wr W7 (Or.inl (List.mem_of_getElem? (i := 0) rfl))
  have KQ32_3 := KQ32_2.ext E13
  have KQ32_4 := KQ32_3.wr W19 (Or.inl (List.mem_of_getElem? (i := 0) rfl))
  have KQ32_5 := KQ32_4.ext E25
  have KQ32_6 := KQ32_5.wr W31 (Or.inl (List.mem_of_getElem? (i := 0) rfl))
  have f33 := (f26.wr W31)
  have f34 := ((((Fw7.ext E13).other W19 (Or.inr (slot_ne (Or.inr (hw _ (List.mem_of_getElem? (i := 62) rfl))) (Or.inr (hw _ (List.mem_of_getElem? (i := 70) rfl))) (by decide) (t := (.object "java/lang/String")) (t' := (.object "java/lang/String")) (by decide) (by decide)))).ext E25).other W31 (Or.inr (slot_ne (Or.inr (hw _ (List.mem_of_getElem? (i := 62) rfl))) (Or.inr (hw _ (List.mem_of_getElem? (i := 73) rfl))) (by decide) (t := (.object "java/lang/String")) (t' := (.object "java/lang/String")) (by decide) (by decide))))
  have f35 := ((Fw19.ext E25).other W31 (Or.inr (slot_ne (Or.inr (hw _ (List.mem_of_getElem? (i := 70) rfl))) (Or.inr (hw _ (List.mem_of_getElem? (i := 73) rfl))) (by decide) (t := (.object "java/lang/String")) (t' := (.object "java/lang/String")) (by decide) (by decide))))
  have KQ36_0 := Keep.refl h25 [a0]
  have KQ36_1 := KQ36_0.wr W31 (Or.inl (List.mem_of_getElem? (i := 0) rfl))
  have CH37 := CH25.trans (CHr.keep KQ36_1 (sfS (Safe.exa hZ25.alike f26 (by decide) (by decide)) sf0) CH25.1)
  have f38 := (Nat.le_trans hk25 (Keep.of_wr W31).1)
  obtain ⟨fs, hr, hrun, hended, hREW⟩ := X31.leaveW hS25 (by rw [e31]; exact f38) (v := none) (fun _ => rfl)
  have CHE := CH37.trans (CHv.at X31 hZ25 hEL CH37.1)
  refine ⟨_, _, ?_, hrun, hended, _, _, rfl, ?_, ?_, hREW.1, hREW.2.1, hREW.2.2.1, hREW.2.2.2.mono (by decide) (by decide)⟩
  · rw [← hG0]
    refine K31 _ ?_
    exact X31.returnOut hx Bd.returns (hb hby d9_38) hr
  · show Q9 Z a0 a1 a2 a3 u_kind u_id u_version ck G1 h0 n0 _ T31.heap _
    rw [e31]
    exact ⟨rfl, N31, KQ32_6, f33, f34, f35, Fw31⟩
  · rw [hh]
    show CHr Z consts_1 s.vm h0 T31.vm T31.heap
    rw [e31]
    exact CHE
theorem d14_0 : decode prog_143_method_6_code 0 = .ok (.aload_n 1, 1) := by decide +kernel
theorem d14_1 : decode prog_143_method_6_code 1 = .ok (.instanceof 8, 3) := by decide +kernel
theorem d14_4 : decode prog_143_method_6_code 4 = .ok (.ifCond .eq 58, 3) := by decide +kernel
theorem d14_7 : decode prog_143_method_6_code 7 = .ok (.aload_n 0, 1) := by decide +kernel
theorem d14_8 : decode prog_143_method_6_code 8 = .ok (.getfield 13, 3) := by decide +kernel
theorem d14_11 : decode prog_143_method_6_code 11 = .ok (.aload_n 1, 1) := by decide +kernel
theorem d14_12 : decode prog_143_method_6_code 12 = .ok (.checkcast 8, 3) := by decide +kernel
theorem d14_15 : decode prog_143_method_6_code 15 = .ok (.getfield 13, 3) := by decide +kernel
theorem d14_18 : decode prog_143_method_6_code 18 = .ok (.invokevirtual 35, 3) := by decide +kernel
theorem d14_21 : decode prog_143_method_6_code 21 = .ok (.ifCond .eq 41, 3) := by decide +kernel
theorem d14_24 : decode prog_143_method_6_code 24 = .ok (.aload_n 0, 1) := by decide +kernel
theorem d14_25 : decode prog_143_method_6_code 25 = .ok (.getfield 27, 3) := by decide +kernel
theorem d14_28 : decode prog_143_method_6_code 28 = .ok (.aload_n 1, 1) := by decide +kernel
theorem d14_29 : decode prog_143_method_6_code 29 = .ok (.checkcast 8, 3) := by decide +kernel
theorem d14_32 : decode prog_143_method_6_code 32 = .ok (.getfield 27, 3) := by decide +kernel
theorem d14_35 : decode prog_143_method_6_code 35 = .ok (.invokevirtual 35, 3) := by decide +kernel
theorem d14_38 : decode prog_143_method_6_code 38 = .ok (.ifCond .eq 24, 3) := by decide +kernel
theorem d14_41 : decode prog_143_method_6_code 41 = .ok (.aload_n 0, 1) := by decide +kernel
theorem d14_42 : decode prog_143_method_6_code 42 = .ok (.getfield 31, 3) := by decide +kernel
theorem d14_45 : decode prog_143_method_6_code 45 = .ok (.aload_n 1, 1) := by decide +kernel
theorem d14_46 : decode prog_143_method_6_code 46 = .ok (.checkcast 8, 3) := by decide +kernel
theorem d14_49 : decode prog_143_method_6_code 49 = .ok (.getfield 31, 3) := by decide +kernel
theorem d14_52 : decode prog_143_method_6_code 52 = .ok (.invokevirtual 35, 3) := by decide +kernel
theorem d14_55 : decode prog_143_method_6_code 55 = .ok (.ifCond .eq 7, 3) := by decide +kernel
theorem d14_58 : decode prog_143_method_6_code 58 = .ok (.iconst 1, 1) := by decide +kernel
theorem d14_59 : decode prog_143_method_6_code 59 = .ok (.goto 4, 3) := by decide +kernel
theorem d14_62 : decode prog_143_method_6_code 62 = .ok (.iconst 0, 1) := by decide +kernel
theorem d14_63 : decode prog_143_method_6_code 63 = .ok (.ireturn, 1) := by decide +kernel
theorem ef_rm14 (m : MethodId) (a0 : Addr) (a1 : Addr) : entryFrame m #[(.ref a0), (.ref a1)] 2 = (mkF m 0 #[.val (.ref a0), .val (.ref a1)] []) := by first | (simp [entryFrame, mkF, argsToLocals, Value.category]; done) | rfl
def Q14 (Z : State) (a0 : Addr) (a1 : Addr) (u0 : Addr) (u1 : Addr) (u2 : Addr) (v0 : Addr) (v1 : Addr) (v2 : Addr) (cu0 : List Int32) (cu1 : List Int32) (cu2 : List Int32) (cv0 : List Int32) (cv1 : List Int32) (cv2 : List Int32) (G1 : Int32) (h0 : Heap) (n0 : Nat) (v : Option Value) (h : Heap) (L : List Loc) : Prop := v = some (.int (own_e cu0 cv0 cu1 cv1 cu2 cv2)) ∧ Fr n0 L ∧ h = h0
set_option maxRecDepth 65536 in
set_option maxHeartbeats 40000000 in
theorem rm14 (l : Launch) (Z : State) (aa : Array Value) (hw : ∀ d ∈ tables_1, d.before aa Z = true) (ws : List Jvm.Cond) (a0 : Addr) (a1 : Addr) (u0 : Addr) (u1 : Addr) (u2 : Addr) (v0 : Addr) (v1 : Addr) (v2 : Addr) (cu0 : List Int32) (cu1 : List Int32) (cu2 : List Int32) (cv0 : List Int32) (cv1 : List Int32) (cv2 : List Int32) (G1 : Int32) (h0 : Heap) (n0 : Nat) (Z0 : n0 ≤ h0.size) (O2 : Sta Z Z.heap "java/lang/String" "COMPACT_STRINGS" "Z" (.int G1)) (P5 : ¬ (G1 = (0 : Int32))) (HO : Old Z n0 h0) (Fu0 : Fld Z h0 a0 "com/example/lichen/lichen/model/PolicyIdentifier" "kind" "Ljava/lang/String;" (.ref u0)) (Fu1 : Fld Z h0 a0 "com/example/lichen/lichen/model/PolicyIdentifier" "id" "Ljava/lang/String;" (.ref u1)) (Fu2 : Fld Z h0 a0 "com/example/lichen/lichen/model/PolicyIdentifier" "version" "Ljava/lang/String;" (.ref u2)) (Su0 : own_Str Z h0 u0 cu0) (Su1 : own_Str Z h0 u1 cu1) (Su2 : own_Str Z h0 u2 cu2) (Fv0 : Fld Z h0 a1 "com/example/lichen/lichen/model/PolicyIdentifier" "kind" "Ljava/lang/String;" (.ref v0)) (Fv1 : Fld Z h0 a1 "com/example/lichen/lichen/model/PolicyIdentifier" "id" "Ljava/lang/String;" (.ref v1)) (Fv2 : Fld Z h0 a1 "com/example/lichen/lichen/model/PolicyIdentifier" "version" "Ljava/lang/String;" (.ref v2)) (Sv0 : own_Str Z h0 v0 cv0) (Sv1 : own_Str Z h0 v1 cv1) (Sv2 : own_Str Z h0 v2 cv2) (E1 : Exa Z h0 a1 "com/example/lichen/lichen/model/PolicyIdentifier") :
    MetFree l (⟨"com/example/lichen/lichen/model/PolicyIdentifier", "equals", "(Ljava/lang/Object;)Z"⟩ : MethodName) (head1 (Jvm.Cond.code (⟨"com/example/lichen/lichen/model/PolicyIdentifier", "equals", "(Ljava/lang/Object;)Z"⟩ : MethodName) prog_143_method_6_code 2 (some .boolean) :: ws) ({ frames := 2, cells := 0, slots := 0, locals := 28 } : Room)) (fun a U => a = #[(.ref a0), (.ref a1)] ∧ Z.Warmed39 U.vm ∧ U.heap = h0) (fun _ _ _ _ _ => True) (fun _ U o U' => ∃ v L, o = .returned v ∧ Q14 Z a0 a1 u0 u1 u2 v0 v1 v2 cu0 cu1 cu2 cv0 cv1 cv2 G1 h0 n0 v U'.heap L ∧ FrameEnd U o U' L ({ frames := 2, cells := 0, slots := 0, locals := 28 } : Room).cells ({ frames := 2, cells := 0, slots := 0, locals := 28 } : Room).slots) := by
  refine MetFree.of_bodySF (plainFor_of_name pn_com_example_lichen_lichen_model_PolicyIdentifier) hisR ?_
  intro p e s m args below meth c s₁ Bd hml0 hP hK
  obtain ⟨rfl, hZ, hh⟩ := hP
  have hx := Bd.exec
  have hby := Bd.bytes
  have hml : c.maxLocals = 2 := hml0
  have hown : s.vm.findClass "com/example/lichen/lichen/model/PolicyIdentifier" = some m.cls := findClass_of_methodNamed Bd.named
  have hnm := (name_of_methodNamed Bd.named Bd.method).1
  have X0 : Stand p l e ({ frames := 2, cells := 0, slots := 0, locals := 28 } : Room) s m #[(.ref a0), (.ref a1)] below meth c s₁ [] 0 0 := Stand.of_body Bd
  have e0 : s₁.heap = h0 := by rw [← hh, Bd.state]; rfl
  have N0 := Fr.nil n0
  obtain ⟨G0, hG0⟩ : ∃ G, G = s₁.setTop (entryFrame m #[(.ref a0), (.ref a1)] 2) := ⟨_, rfl⟩
  have K0 : ∀ t, Steps p.tables e below (s₁.setTop (mkF m 0 #[.val (.ref a0), .val (.ref a1)] [])) t → Steps p.tables e below G0 t := fun t k => by rw [hG0]; exact castTop (ef_rm14 m a0 a1) k
  have K1 : ∀ t, Steps p.tables e below (s₁.setTop (mkF m 1 #[.val (.ref a0), .val (.ref a1)] [(.ref a1)])) t → Steps p.tables e below G0 t := by
    intro t kt
    refine K0 t ?_
    refine XS.aloadN X0.here hx rfl (hb hby d14_0) rfl rfl ?_
    show Steps p.tables e below (s₁.setTop (mkF m 1 #[.val (.ref a0), .val (.ref a1)] [(.ref a1)])) _
    exact kt
  obtain ⟨T2, X2, e2, st2⟩ := instY X0 hx hZ hown (hw _ (List.mem_of_getElem? (i := 79) rfl)) e0 (Ins.self E1) (g := (mkF m 1 #[.val (.ref a0), .val (.ref a1)] [(.ref a1)])) rfl rfl (hb hby d14_1)
  have K2 : ∀ t, Steps p.tables e below (T2.setTop (mkF m 4 #[.val (.ref a0), .val (.ref a1)] [(.int (1 : Int32))])) t → Steps p.tables e below G0 t := fun t kt => K1 t (st2 _ kt)
  have K3 : ∀ t, Steps p.tables e below (T2.setTop (mkF m 8 #[.val (.ref a0), .val (.ref a1)] [(.ref a0)])) t → Steps p.tables e below G0 t := by
    intro t kt
    refine K2 t ?_
    refine XS.ifNo X2.here hx rfl (hb hby d14_4) rfl ((if0 _ _).trans (feq (by decide)).1) ?_
    show Steps p.tables e below (T2.setTop (mkF m 7 #[.val (.ref a0), .val (.ref a1)] [])) _
    refine XS.aloadN X2.here hx rfl (hb hby d14_7) rfl rfl ?_
    show Steps p.tables e below (T2.setTop (mkF m 8 #[.val (.ref a0), .val (.ref a1)] [(.ref a0)])) _
    exact kt
  obtain ⟨T4, X4, e4, st4⟩ := getF X2 hx hZ hown (host := "") (Or.inl (hw _ (List.mem_of_getElem? (i := 61) rfl))) Via.refl e2 Fu0 (g := (mkF m 8 #[.val (.ref a0), .val (.ref a1)] [(.ref a0)])) rfl rfl (hb hby d14_8)
  have K4 : ∀ t, Steps p.tables e below (T4.setTop (mkF m 11 #[.val (.ref a0), .val (.ref a1)] [(.ref u0)])) t → Steps p.tables e below G0 t := fun t kt => K3 t (st4 _ kt)
  have K5 : ∀ t, Steps p.tables e below (T4.setTop (mkF m 12 #[.val (.ref a0), .val (.ref a1)] [(.ref a1), (.ref u0)])) t → Steps p.tables e below G0 t := by
    intro t kt
    refine K4 t ?_
    refine XS.aloadN X4.here hx rfl (hb hby d14_11) rfl rfl ?_
    show Steps p.tables e below (T4.setTop (mkF m 12 #[.val (.ref a0), .val (.ref a1)] [(.ref a1), (.ref u0)])) _
    exact kt
  obtain ⟨T6, X6, e6, st6⟩ := castY X4 hx hZ hown (hw _ (List.mem_of_getElem? (i := 79) rfl)) e4 (Ins.self E1) (g := (mkF m 12 #[.val (.ref a0), .val (.ref a1)] [(.ref a1), (.ref u0)])) rfl rfl (hb hby d14_12)
  have K6 : ∀ t, Steps p.tables e below (T6.setTop (mkF m 15 #[.val (.ref a0), .val (.ref a1)] [(.ref a1), (.ref u0)])) t → Steps p.tables e below G0 t := fun t kt => K5 t (st6 _ kt)
  obtain ⟨T7, X7, e7, st7⟩ := getF X6 hx hZ hown (host := "") (Or.inl (hw _ (List.mem_of_getElem? (i := 61) rfl))) Via.refl e6 Fv0 (g := (mkF m 15 #[.val (.ref a0), .val (.ref a1)] [(.ref a1), (.ref u0)])) rfl rfl (hb hby d14_15)
  have K7 : ∀ t, Steps p.tables e below (T7.setTop (mkF m 18 #[.val (.ref a0), .val (.ref a1)] [(.ref v0), (.ref u0)])) t → Steps p.tables e below G0 t := fun t kt => K6 t (st7 _ kt)
  obtain ⟨EX8, CX8, ⟨bX8, kX8, VX8, KX8⟩, pX8, lX8⟩ := id Su0
  obtain ⟨EY8, CY8, ⟨bY8, kY8, VY8, KY8⟩, pY8, lY8⟩ := id Sv0
  obtain ⟨cq9, kq9, q9a, q9b, q9c⟩ := isOf hZ e7 EX8
  obtain ⟨v10, _, ⟨T10, L10, k10, n10⟩, -, X10, ⟨Lc10, hQ10, l10, y10, z10⟩, st10⟩ := X7.virtualBack hx (y := (⟨"java/lang/String", "equals", "(Ljava/lang/Object;)Z"⟩ : MethodName)) (z := (⟨"java/lang/String", "equals", "(Ljava/lang/Object;)Z"⟩ : MethodName)) hown (mvT hZ (hw _ (List.mem_of_getElem? (i := 51) rfl))) (mvT hZ (hw _ (List.mem_of_getElem? (i := 52) rfl))) (notFace_of_selects (args := #[]) (mvT hZ (hw _ (List.mem_of_getElem? (i := 54) rfl)))) (mvT hZ (hw _ (List.mem_of_getElem? (i := 54) rfl))) (mvT hZ (hw _ (List.mem_of_getElem? (i := 53) rfl))) (by decide) (StrChars.Road.eqW (W := 0) hZ (own_wsE hw) (kI := 4) (hw _ (List.mem_of_getElem? (i := 8) rfl)) EX8 VX8 CX8 KX8 (StrChars.Road.codOf rfl (fun c hc => (pX8 c hc).2)) (own_up pX8) lX8 EY8 VY8 CY8 KY8 (StrChars.Road.codOf rfl (fun c hc => (pY8 c hc).2)) (own_up pY8) lY8 (O2.ext HO.2) P5 (by decide) (by decide)) q9a q9c (g := (mkF m 18 #[.val (.ref a0), .val (.ref a1)] [(.ref v0), (.ref u0)])) rfl (by rw [hml]; rfl) (Steps.refl _) (argsL := [(.ref v0)]) (rest := []) (lenOf pd_PLjava_lang_Object_QZ rfl) rfl (by show 2 * 0 + _ ≤ _; exact Nat.le_of_eq rfl) (hb hby d14_18) (fun _ _ => ⟨rfl, e7, (by decide : 0 + 0 ≤ _), (by decide : 0 + 0 ≤ _)⟩)
  dsimp only [Pt.U, Pt.locs, Pt.cells, Pt.slots] at X10 l10 y10 z10 st10 hQ10
  subst l10 y10 z10
  obtain ⟨hv10, rfl, e10⟩ := hQ10
  obtain rfl := own_qv hv10
  have N10 := Fr.app N0 (Fr.nil n0)
  have K10 : ∀ t, Steps p.tables e below (T10.setTop (mkF m 21 #[.val (.ref a0), .val (.ref a1)] [(.int (own_q cu0 cv0))])) t → Steps p.tables e below G0 t := fun t kt => K7 t (st10.trans kt)
  by_cases hc11 : (own_q cu0 cv0) = (0 : Int32)
  ·
    have K12 : ∀ t, Steps p.tables e below (T10.setTop (mkF m 63 #[.val (.ref a0), .val (.ref a1)] [(.int (0 : Int32))])) t → Steps p.tables e below G0 t := by
      intro t kt
      refine K10 t ?_
      refine XS.ifYes X10.here hx rfl (pc0 := 21) (pc' := 62) rfl (hb hby d14_21) rfl ((if0 _ _).trans (teq hc11).1) (by decide) (by decide) ?_
      show Steps p.tables e below (T10.setTop (mkF m 62 #[.val (.ref a0), .val (.ref a1)] [])) _
      refine XS.iconst X10.here hx rfl (hb hby d14_62) ?_
      show Steps p.tables e below (T10.setTop (mkF m 63 #[.val (.ref a0), .val (.ref a1)] [(.int (0 : Int32))])) _
      exact kt
    obtain ⟨fs, hr, hrun, hended, hW, hsame⟩ := X10.leave (v := some (.int (0 : Int32))) (fun h => by rw [Bd.returns] at h; cases h)
    refine ⟨_, _, ?_, hrun, hended, _, _, rfl, ?_, ⟨_, rfl⟩, hW, hsame.mono (by decide) (by decide)⟩
    · rw [← hG0]
      refine K12 _ ?_
      exact retN X10 hx (t := .boolean) Bd.returns (by simp) (hb hby d14_63) hr
    · show Q14 Z a0 a1 u0 u1 u2 v0 v1 v2 cu0 cu1 cu2 cv0 cv1 cv2 G1 h0 n0 _ T10.heap _
      rw [e10]
      exact ⟨by rw [own_e, if_pos hc11], N10, rfl⟩
  ·
    have K13 : ∀ t, Steps p.tables e below (T10.setTop (mkF m 25 #[.val (.ref a0), .val (.ref a1)] [(.ref a0)])) t → Steps p.tables e below G0 t := by
      intro t kt
      refine K10 t ?_
      refine XS.ifNo X10.here hx rfl (hb hby d14_21) rfl ((if0 _ _).trans (feq hc11).1) ?_
      show Steps p.tables e below (T10.setTop (mkF m 24 #[.val (.ref a0), .val (.ref a1)] [])) _
      refine XS.aloadN X10.here hx rfl (hb hby d14_24) rfl rfl ?_
      show Steps p.tables e below (T10.setTop (mkF m 25 #[.val (.ref a0), .val (.ref a1)] [(.ref a0)])) _
      exact kt
    obtain ⟨T14, X14, e14, st14⟩ := getF X10 hx hZ hown (host := "") (Or.inl (hw _ (List.mem_of_getElem? (i := 69) rfl))) Via.refl e10 Fu1 (g := (mkF m 25 #[.val (.ref a0), .val (.ref a1)] [(.ref a0)])) rfl rfl (hb hby d14_25)
    have K14 : ∀ t, Steps p.tables e below (T14.setTop (mkF m 28 #[.val (.ref a0), .val (.ref a1)] [(.ref u1)])) t → Steps p.tables e below G0 t := fun t kt => K13 t (st14 _ kt)
    have K15 : ∀ t, Steps p.tables e below (T14.setTop (mkF m 29 #[.val (.ref a0), .val (.ref a1)] [(.ref a1), (.ref u1)])) t → Steps p.tables e below G0 t := by
      intro t kt
      refine K14 t ?_
      refine XS.aloadN X14.here hx rfl (hb hby d14_28) rfl rfl ?_
      show Steps p.tables e below (T14.setTop (mkF m 29 #[.val (.ref a0), .val (.ref a1)] [(.ref a1), (.ref u1)])) _
      exact kt
    obtain ⟨T16, X16, e16, st16⟩ := castY X14 hx hZ hown (hw _ (List.mem_of_getElem? (i := 79) rfl)) e14 (Ins.self E1) (g := (mkF m 29 #[.val (.ref a0), .val (.ref a1)] [(.ref a1), (.ref u1)])) rfl rfl (hb hby d14_29)
    have K16 : ∀ t, Steps p.tables e below (T16.setTop (mkF m 32 #[.val (.ref a0), .val (.ref a1)] [(.ref a1), (.ref u1)])) t → Steps p.tables e below G0 t := fun t kt => K15 t (st16 _ kt)
    obtain ⟨T17, X17, e17, st17⟩ := getF X16 hx hZ hown (host := "") (Or.inl (hw _ (List.mem_of_getElem? (i := 69) rfl))) Via.refl e16 Fv1 (g := (mkF m 32 #[.val (.ref a0), .val (.ref a1)] [(.ref a1), (.ref u1)])) rfl rfl (hb hby d14_32)
    have K17 : ∀ t, Steps p.tables e below (T17.setTop (mkF m 35 #[.val (.ref a0), .val (.ref a1)] [(.ref v1), (.ref u1)])) t → Steps p.tables e below G0 t := fun t kt => K16 t (st17 _ kt)
    obtain ⟨EX18, CX18, ⟨bX18, kX18, VX18, KX18⟩, pX18, lX18⟩ := id Su1
    obtain ⟨EY18, CY18, ⟨bY18, kY18, VY18, KY18⟩, pY18, lY18⟩ := id Sv1
    obtain ⟨cq19, kq19, q19a, q19b, q19c⟩ := isOf hZ e17 EX18
    obtain ⟨v20, _, ⟨T20, L20, k20, n20⟩, -, X20, ⟨Lc20, hQ20, l20, y20, z20⟩, st20⟩ := X17.virtualBack hx (y := (⟨"java/lang/String", "equals", "(Ljava/lang/Object;)Z"⟩ : MethodName)) (z := (⟨"java/lang/String", "equals", "(Ljava/lang/Object;)Z"⟩ : MethodName)) hown (mvT hZ (hw _ (List.mem_of_getElem? (i := 51) rfl))) (mvT hZ (hw _ (List.mem_of_getElem? (i := 52) rfl))) (notFace_of_selects (args := #[]) (mvT hZ (hw _ (List.mem_of_getElem? (i := 54) rfl)))) (mvT hZ (hw _ (List.mem_of_getElem? (i := 54) rfl))) (mvT hZ (hw _ (List.mem_of_getElem? (i := 53) rfl))) (by decide) (StrChars.Road.eqW (W := 0) hZ (own_wsE hw) (kI := 4) (hw _ (List.mem_of_getElem? (i := 8) rfl)) EX18 VX18 CX18 KX18 (StrChars.Road.codOf rfl (fun c hc => (pX18 c hc).2)) (own_up pX18) lX18 EY18 VY18 CY18 KY18 (StrChars.Road.codOf rfl (fun c hc => (pY18 c hc).2)) (own_up pY18) lY18 (O2.ext HO.2) P5 (by decide) (by decide)) q19a q19c (g := (mkF m 35 #[.val (.ref a0), .val (.ref a1)] [(.ref v1), (.ref u1)])) rfl (by rw [hml]; rfl) (Steps.refl _) (argsL := [(.ref v1)]) (rest := []) (lenOf pd_PLjava_lang_Object_QZ rfl) rfl (by show 2 * 0 + _ ≤ _; exact Nat.le_of_eq rfl) (hb hby d14_35) (fun _ _ => ⟨rfl, e17, (by decide : 0 + 0 ≤ _), (by decide : 0 + 0 ≤ _)⟩)
    dsimp only [Pt.U, Pt.locs, Pt.cells, Pt.slots] at X20 l20 y20 z20 st20 hQ20
    subst l20 y20 z20
    obtain ⟨hv20, rfl, e20⟩ := hQ20
    obtain rfl := own_qv hv20
    have N20 := Fr.app N10 (Fr.nil n0)
    have K20 : ∀ t, Steps p.tables e below (T20.setTop (mkF m 38 #[.val (.ref a0), .val (.ref a1)] [(.int (own_q cu1 cv1))])) t → Steps p.tables e below G0 t := fun t kt => K17 t (st20.trans kt)
    by_cases hc21 : (own_q cu1 cv1) = (0 : Int32)
    ·
      have K22 : ∀ t, Steps p.tables e below (T20.setTop (mkF m 63 #[.val (.ref a0), .val (.ref a1)] [(.int (0 : Int32))])) t → Steps p.tables e below G0 t := by
        intro t kt
        refine K20 t ?_
        refine XS.ifYes X20.here hx rfl (pc0 := 38) (pc' := 62) rfl (hb hby d14_38) rfl ((if0 _ _).trans (teq hc21).1) (by decide) (by decide) ?_
        show Steps p.tables e below (T20.setTop (mkF m 62 #[.val (.ref a0), .val (.ref a1)] [])) _
        refine XS.iconst X20.here hx rfl (hb hby d14_62) ?_
        show Steps p.tables e below (T20.setTop (mkF m 63 #[.val (.ref a0), .val (.ref a1)] [(.int (0 : Int32))])) _
        exact kt
      obtain ⟨fs, hr, hrun, hended, hW, hsame⟩ := X20.leave (v := some (.int (0 : Int32))) (fun h => by rw [Bd.returns] at h; cases h)
      refine ⟨_, _, ?_, hrun, hended, _, _, rfl, ?_, ⟨_, rfl⟩, hW, hsame.mono (by decide) (by decide)⟩
      · rw [← hG0]
        refine K22 _ ?_
        exact retN X20 hx (t := .boolean) Bd.returns (by simp) (hb hby d14_63) hr
      · show Q14 Z a0 a1 u0 u1 u2 v0 v1 v2 cu0 cu1 cu2 cv0 cv1 cv2 G1 h0 n0 _ T20.heap _
        rw [e20]
        exact ⟨by rw [own_e, if_neg hc11, if_pos hc21], N20, rfl⟩
    ·
      have K23 : ∀ t, Steps p.tables e below (T20.setTop (mkF m 42 #[.val (.ref a0), .val (.ref a1)] [(.ref a0)])) t → Steps p.tables e below G0 t := by
        intro t kt
        refine K20 t ?_
        refine XS.ifNo X20.here hx rfl (hb hby d14_38) rfl ((if0 _ _).trans (feq hc21).1) ?_
        show Steps p.tables e below (T20.setTop (mkF m 41 #[.val (.ref a0), .val (.ref a1)] [])) _
        refine XS.aloadN X20.here hx rfl (hb hby d14_41) rfl rfl ?_
        show Steps p.tables e below (T20.setTop (mkF m 42 #[.val (.ref a0), .val (.ref a1)] [(.ref a0)])) _
        exact kt
      obtain ⟨T24, X24, e24, st24⟩ := getF X20 hx hZ hown (host := "") (Or.inl (hw _ (List.mem_of_getElem? (i := 72) rfl))) Via.refl e20 Fu2 (g := (mkF m 42 #[.val (.ref a0), .val (.ref a1)] [(.ref a0)])) rfl rfl (hb hby d14_42)
      have K24 : ∀ t, Steps p.tables e below (T24.setTop (mkF m 45 #[.val (.ref a0), .val (.ref a1)] [(.ref u2)])) t → Steps p.tables e below G0 t := fun t kt => K23 t (st24 _ kt)
      have K25 : ∀ t, Steps p.tables e below (T24.setTop (mkF m 46 #[.val (.ref a0), .val (.ref a1)] [(.ref a1), (.ref u2)])) t → Steps p.tables e below G0 t := by
        intro t kt
        refine K24 t ?_
        refine XS.aloadN X24.here hx rfl (hb hby d14_45) rfl rfl ?_
        show Steps p.tables e below (T24.setTop (mkF m 46 #[.val (.ref a0), .val (.ref a1)] [(.ref a1), (.ref u2)])) _
        exact kt
      obtain ⟨T26, X26, e26, st26⟩ := castY X24 hx hZ hown (hw _ (List.mem_of_getElem? (i := 79) rfl)) e24 (Ins.self E1) (g := (mkF m 46 #[.val (.ref a0), .val (.ref a1)] [(.ref a1), (.ref u2)])) rfl rfl (hb hby d14_46)
      have K26 : ∀ t, Steps p.tables e below (T26.setTop (mkF m 49 #[.val (.ref a0), .val (.ref a1)] [(.ref a1), (.ref u2)])) t → Steps p.tables e below G0 t := fun t kt => K25 t (st26 _ kt)
      obtain ⟨T27, X27, e27, st27⟩ := getF X26 hx hZ hown (host := "") (Or.inl (hw _ (List.mem_of_getElem? (i := 72) rfl))) Via.refl e26 Fv2 (g := (mkF m 49 #[.val (.ref a0), .val (.ref a1)] [(.ref a1), (.ref u2)])) rfl rfl (hb hby d14_49)
      have K27 : ∀ t, Steps p.tables e below (T27.setTop (mkF m 52 #[.val (.ref a0), .val (.ref a1)] [(.ref v2), (.ref u2)])) t → Steps p.tables e below G0 t := fun t kt => K26 t (st27 _ kt)
      obtain ⟨EX28, CX28, ⟨bX28, kX28, VX28, KX28⟩, pX28, lX28⟩ := id Su2
      obtain ⟨EY28, CY28, ⟨bY28, kY28, VY28, KY28⟩, pY28, lY28⟩ := id Sv2
      obtain ⟨cq29, kq29, q29a, q29b, q29c⟩ := isOf hZ e27 EX28
      obtain ⟨v30, _, ⟨T30, L30, k30, n30⟩, -, X30, ⟨Lc30, hQ30, l30, y30, z30⟩, st30⟩ := X27.virtualBack hx (y := (⟨"java/lang/String", "equals", "(Ljava/lang/Object;)Z"⟩ : MethodName)) (z := (⟨"java/lang/String", "equals", "(Ljava/lang/Object;)Z"⟩ : MethodName)) hown (mvT hZ (hw _ (List.mem_of_getElem? (i := 51) rfl))) (mvT hZ (hw _ (List.mem_of_getElem? (i := 52) rfl))) (notFace_of_selects (args := #[]) (mvT hZ (hw _ (List.mem_of_getElem? (i := 54) rfl)))) (mvT hZ (hw _ (List.mem_of_getElem? (i := 54) rfl))) (mvT hZ (hw _ (List.mem_of_getElem? (i := 53) rfl))) (by decide) (StrChars.Road.eqW (W := 0) hZ (own_wsE hw) (kI := 4) (hw _ (List.mem_of_getElem? (i := 8) rfl)) EX28 VX28 CX28 KX28 (StrChars.Road.codOf rfl (fun c hc => (pX28 c hc).2)) (own_up pX28) lX28 EY28 VY28 CY28 KY28 (StrChars.Road.codOf rfl (fun c hc => (pY28 c hc).2)) (own_up pY28) lY28 (O2.ext HO.2) P5 (by decide) (by decide)) q29a q29c (g := (mkF m 52 #[.val (.ref a0), .val (.ref a1)] [(.ref v2), (.ref u2)])) rfl (by rw [hml]; rfl) (Steps.refl _) (argsL := [(.ref v2)]) (rest := []) (lenOf pd_PLjava_lang_Object_QZ rfl) rfl (by show 2 * 0 + _ ≤ _; exact Nat.le_of_eq rfl) (hb hby d14_52) (fun _ _ => ⟨rfl, e27, (by decide : 0 + 0 ≤ _), (by decide : 0 + 0 ≤ _)⟩)
      dsimp only [Pt.U, Pt.locs, Pt.cells, Pt.slots] at X30 l30 y30 z30 st30 hQ30
      subst l30 y30 z30
      obtain ⟨hv30, rfl, e30⟩ := hQ30
      obtain rfl := own_qv hv30
      have N30 := Fr.app N20 (Fr.nil n0)
      have K30 : ∀ t, Steps p.tables e below (T30.setTop (mkF m 55 #[.val (.ref a0), .val (.ref a1)] [(.int (own_q cu2 cv2))])) t → Steps p.tables e below G0 t := fun t kt => K27 t (st30.trans kt)
      by_cases hc31 : (own_q cu2 cv2) = (0 : Int32)
      ·
        have K32 : ∀ t, Steps p.tables e below (T30.setTop (mkF m 63 #[.val (.ref a0), .val (.ref a1)] [(.int (0 : Int32))])) t → Steps p.tables e below G0 t := by
          intro t kt
          refine K30 t ?_
          refine XS.ifYes X30.here hx rfl (pc0 := 55) (pc' := 62) rfl (hb hby d14_55) rfl ((if0 _ _).trans (teq hc31).1) (by decide) (by decide) ?_
          show Steps p.tables e below (T30.setTop (mkF m 62 #[.val (.ref a0), .val (.ref a1)] [])) _
          refine XS.iconst X30.here hx rfl (hb hby d14_62) ?_
          show Steps p.tables e below (T30.setTop (mkF m 63 #[.val (.ref a0), .val (.ref a1)] [(.int (0 : Int32))])) _
          exact kt
        obtain ⟨fs, hr, hrun, hended, hW, hsame⟩ := X30.leave (v := some (.int (0 : Int32))) (fun h => by rw [Bd.returns] at h; cases h)
        refine ⟨_, _, ?_, hrun, hended, _, _, rfl, ?_, ⟨_, rfl⟩, hW, hsame.mono (by decide) (by decide)⟩
        · rw [← hG0]
          refine K32 _ ?_
          exact retN X30 hx (t := .boolean) Bd.returns (by simp) (hb hby d14_63) hr
        · show Q14 Z a0 a1 u0 u1 u2 v0 v1 v2 cu0 cu1 cu2 cv0 cv1 cv2 G1 h0 n0 _ T30.heap _
          rw [e30]
          exact ⟨by rw [own_e, if_neg hc11, if_neg hc21, if_pos hc31], N30, rfl⟩
      ·
        have K33 : ∀ t, Steps p.tables e below (T30.setTop (mkF m 63 #[.val (.ref a0), .val (.ref a1)] [(.int (1 : Int32))])) t → Steps p.tables e below G0 t := by
          intro t kt
          refine K30 t ?_
          refine XS.ifNo X30.here hx rfl (hb hby d14_55) rfl ((if0 _ _).trans (feq hc31).1) ?_
          show Steps p.tables e below (T30.setTop (mkF m 58 #[.val (.ref a0), .val (.ref a1)] [])) _
          refine XS.iconst X30.here hx rfl (hb hby d14_58) ?_
          show Steps p.tables e below (T30.setTop (mkF m 59 #[.val (.ref a0), .val (.ref a1)] [(.int (1 : Int32))])) _
          refine XS.goto X30.here hx rfl (pc0 := 59) (pc' := 63) rfl (hb hby d14_59) (by decide) (by decide) ?_
          show Steps p.tables e below (T30.setTop (mkF m 63 #[.val (.ref a0), .val (.ref a1)] [(.int (1 : Int32))])) _
          exact kt
        obtain ⟨fs, hr, hrun, hended, hW, hsame⟩ := X30.leave (v := some (.int (1 : Int32))) (fun h => by rw [Bd.returns] at h; cases h)
        refine ⟨_, _, ?_, hrun, hended, _, _, rfl, ?_, ⟨_, rfl⟩, hW, hsame.mono (by decide) (by decide)⟩
        · rw [← hG0]
          refine K33 _ ?_
          exact retN X30 hx (t := .boolean) Bd.returns (by simp) (hb hby d14_63) hr
        · show Q14 Z a0 a1 u0 u1 u2 v0 v1 v2 cu0 cu1 cu2 cv0 cv1 cv2 G1 h0 n0 _ T30.heap _
          rw [e30]
          exact ⟨by rw [own_e, if_neg hc11, if_neg hc21, if_neg hc31], N30, rfl⟩
theorem ef_rm14n (m : MethodId) (a0 : Addr) : entryFrame m #[(.ref a0), .null] 2 = (mkF m 0 #[.val (.ref a0), .val .null] []) := by first | (simp [entryFrame, mkF, argsToLocals, Value.category]; done) | rfl
def Q14n (Z : State) (a0 : Addr) (h0 : Heap) (n0 : Nat) (v : Option Value) (h : Heap) (L : List Loc) : Prop := v = some (.int 0) ∧ Fr n0 L ∧ h = h0
set_option maxRecDepth 65536 in
set_option maxHeartbeats 40000000 in
theorem rm14n (l : Launch) (Z : State) (aa : Array Value) (hw : ∀ d ∈ tables_1, d.before aa Z = true) (ws : List Jvm.Cond) (a0 : Addr) (h0 : Heap) (n0 : Nat) (Z0 : n0 ≤ h0.size) :
    MetFree l (⟨"com/example/lichen/lichen/model/PolicyIdentifier", "equals", "(Ljava/lang/Object;)Z"⟩ : MethodName) (head1 (Jvm.Cond.code (⟨"com/example/lichen/lichen/model/PolicyIdentifier", "equals", "(Ljava/lang/Object;)Z"⟩ : MethodName) prog_143_method_6_code 2 (some .boolean) :: ws) ({ frames := 0, cells := 0, slots := 0, locals := 0 } : Room)) (fun a U => a = #[(.ref a0), .null] ∧ Z.Warmed39 U.vm ∧ U.heap = h0) (fun _ _ _ _ _ => True) (fun _ U o U' => ∃ v L, o = .returned v ∧ Q14n Z a0 h0 n0 v U'.heap L ∧ FrameEnd U o U' L ({ frames := 0, cells := 0, slots := 0, locals := 0 } : Room).cells ({ frames := 0, cells := 0, slots := 0, locals := 0 } : Room).slots) := by
  refine MetFree.of_bodySF (plainFor_of_name pn_com_example_lichen_lichen_model_PolicyIdentifier) hisR ?_
  intro p e s m args below meth c s₁ Bd hml0 hP hK
  obtain ⟨rfl, hZ, hh⟩ := hP
  have hx := Bd.exec
  have hby := Bd.bytes
  have hml : c.maxLocals = 2 := hml0
  have hown : s.vm.findClass "com/example/lichen/lichen/model/PolicyIdentifier" = some m.cls := findClass_of_methodNamed Bd.named
  have hnm := (name_of_methodNamed Bd.named Bd.method).1
  have X0 : Stand p l e ({ frames := 0, cells := 0, slots := 0, locals := 0 } : Room) s m #[(.ref a0), .null] below meth c s₁ [] 0 0 := Stand.of_body Bd
  have e0 : s₁.heap = h0 := by rw [← hh, Bd.state]; rfl
  have N0 := Fr.nil n0
  obtain ⟨G0, hG0⟩ : ∃ G, G = s₁.setTop (entryFrame m #[(.ref a0), .null] 2) := ⟨_, rfl⟩
  have K0 : ∀ t, Steps p.tables e below (s₁.setTop (mkF m 0 #[.val (.ref a0), .val .null] [])) t → Steps p.tables e below G0 t := fun t k => by rw [hG0]; exact castTop (ef_rm14n m a0) k
  have K1 : ∀ t, Steps p.tables e below (s₁.setTop (mkF m 1 #[.val (.ref a0), .val .null] [.null])) t → Steps p.tables e below G0 t := by
    intro t kt
    refine K0 t ?_
    refine XS.aloadN X0.here hx rfl (hb hby d14_0) rfl rfl ?_
    show Steps p.tables e below (s₁.setTop (mkF m 1 #[.val (.ref a0), .val .null] [.null])) _
    exact kt
  have K2 : ∀ t, Steps p.tables e below (s₁.setTop (mkF m 63 #[.val (.ref a0), .val .null] [(.int (0 : Int32))])) t → Steps p.tables e below G0 t := by
    intro t kt
    refine K1 t ?_
    refine X0.instanceofNull hx (g := (mkF m 1 #[.val (.ref a0), .val .null] [.null])) rfl rfl (hb hby d14_1) _ ?_
    show Steps p.tables e below (s₁.setTop (mkF m 4 #[.val (.ref a0), .val .null] [(.int (0 : Int32))])) _
    refine XS.ifYes X0.here hx rfl (pc0 := 4) (pc' := 62) rfl (hb hby d14_4) rfl ((if0 _ _).trans (teq rfl).1) (by decide) (by decide) ?_
    show Steps p.tables e below (s₁.setTop (mkF m 62 #[.val (.ref a0), .val .null] [])) _
    refine XS.iconst X0.here hx rfl (hb hby d14_62) ?_
    show Steps p.tables e below (s₁.setTop (mkF m 63 #[.val (.ref a0), .val .null] [(.int (0 : Int32))])) _
    exact kt
  obtain ⟨fs, hr, hrun, hended, hW, hsame⟩ := X0.leave (v := some (.int (0 : Int32))) (fun h => by rw [Bd.returns] at h; cases h)
  refine ⟨_, _, ?_, hrun, hended, _, _, rfl, ?_, ⟨_, rfl⟩, hW, hsame.mono (by decide) (by decide)⟩
  · rw [← hG0]
    refine K2 _ ?_
    exact retN X0 hx (t := .boolean) Bd.returns (by simp) (hb hby d14_63) hr
  · show Q14n Z a0 h0 n0 _ s₁.heap _
    rw [e0]
    exact ⟨rfl, N0, rfl⟩
theorem ef_rm14s (m : MethodId) (a0 : Addr) (a1 : Addr) : entryFrame m #[(.ref a0), (.ref a1)] 2 = (mkF m 0 #[.val (.ref a0), .val (.ref a1)] []) := by first | (simp [entryFrame, mkF, argsToLocals, Value.category]; done) | rfl
def Q14s (Z : State) (a0 : Addr) (a1 : Addr) (h0 : Heap) (n0 : Nat) (v : Option Value) (h : Heap) (L : List Loc) : Prop := v = some (.int 0) ∧ Fr n0 L ∧ h = h0
set_option maxRecDepth 65536 in
set_option maxHeartbeats 40000000 in
theorem rm14s (l : Launch) (Z : State) (aa : Array Value) (hw : ∀ d ∈ tables_1, d.before aa Z = true) (ws : List Jvm.Cond) (a0 : Addr) (a1 : Addr) (h0 : Heap) (n0 : Nat) (Z0 : n0 ≤ h0.size) (E1 : Exa Z h0 a1 "java/lang/String") :
    MetFree l (⟨"com/example/lichen/lichen/model/PolicyIdentifier", "equals", "(Ljava/lang/Object;)Z"⟩ : MethodName) (head1 (Jvm.Cond.code (⟨"com/example/lichen/lichen/model/PolicyIdentifier", "equals", "(Ljava/lang/Object;)Z"⟩ : MethodName) prog_143_method_6_code 2 (some .boolean) :: ws) ({ frames := 0, cells := 0, slots := 0, locals := 0 } : Room)) (fun a U => a = #[(.ref a0), (.ref a1)] ∧ Z.Warmed39 U.vm ∧ U.heap = h0) (fun _ _ _ _ _ => True) (fun _ U o U' => ∃ v L, o = .returned v ∧ Q14s Z a0 a1 h0 n0 v U'.heap L ∧ FrameEnd U o U' L ({ frames := 0, cells := 0, slots := 0, locals := 0 } : Room).cells ({ frames := 0, cells := 0, slots := 0, locals := 0 } : Room).slots) := by
  refine MetFree.of_bodySF (plainFor_of_name pn_com_example_lichen_lichen_model_PolicyIdentifier) hisR ?_
  intro p e s m args below meth c s₁ Bd hml0 hP hK
  obtain ⟨rfl, hZ, hh⟩ := hP
  have hx := Bd.exec
  have hby := Bd.bytes
  have hml : c.maxLocals = 2 := hml0
  have hown : s.vm.findClass "com/example/lichen/lichen/model/PolicyIdentifier" = some m.cls := findClass_of_methodNamed Bd.named
  have hnm := (name_of_methodNamed Bd.named Bd.method).1
  have X0 : Stand p l e ({ frames := 0, cells := 0, slots := 0, locals := 0 } : Room) s m #[(.ref a0), (.ref a1)] below meth c s₁ [] 0 0 := Stand.of_body Bd
  have e0 : s₁.heap = h0 := by rw [← hh, Bd.state]; rfl
  have N0 := Fr.nil n0
  obtain ⟨G0, hG0⟩ : ∃ G, G = s₁.setTop (entryFrame m #[(.ref a0), (.ref a1)] 2) := ⟨_, rfl⟩
  have K0 : ∀ t, Steps p.tables e below (s₁.setTop (mkF m 0 #[.val (.ref a0), .val (.ref a1)] [])) t → Steps p.tables e below G0 t := fun t k => by rw [hG0]; exact castTop (ef_rm14s m a0 a1) k
  have K1 : ∀ t, Steps p.tables e below (s₁.setTop (mkF m 1 #[.val (.ref a0), .val (.ref a1)] [(.ref a1)])) t → Steps p.tables e below G0 t := by
    intro t kt
    refine K0 t ?_
    refine XS.aloadN X0.here hx rfl (hb hby d14_0) rfl rfl ?_
    show Steps p.tables e below (s₁.setTop (mkF m 1 #[.val (.ref a0), .val (.ref a1)] [(.ref a1)])) _
    exact kt
  obtain ⟨T2, X2, e2, st2⟩ := instNo X0 hx hZ hown (hw _ (List.mem_of_getElem? (i := 79) rfl)) e0 E1 (own_no hw) (g := (mkF m 1 #[.val (.ref a0), .val (.ref a1)] [(.ref a1)])) rfl rfl (hb hby d14_1)
  have K2 : ∀ t, Steps p.tables e below (T2.setTop (mkF m 4 #[.val (.ref a0), .val (.ref a1)] [(.int (0 : Int32))])) t → Steps p.tables e below G0 t := fun t kt => K1 t (st2 _ kt)
  have K3 : ∀ t, Steps p.tables e below (T2.setTop (mkF m 63 #[.val (.ref a0), .val (.ref a1)] [(.int (0 : Int32))])) t → Steps p.tables e below G0 t := by
    intro t kt
    refine K2 t ?_
    refine XS.ifYes X2.here hx rfl (pc0 := 4) (pc' := 62) rfl (hb hby d14_4) rfl ((if0 _ _).trans (teq rfl).1) (by decide) (by decide) ?_
    show Steps p.tables e below (T2.setTop (mkF m 62 #[.val (.ref a0), .val (.ref a1)] [])) _
    refine XS.iconst X2.here hx rfl (hb hby d14_62) ?_
    show Steps p.tables e below (T2.setTop (mkF m 63 #[.val (.ref a0), .val (.ref a1)] [(.int (0 : Int32))])) _
    exact kt
  obtain ⟨fs, hr, hrun, hended, hW, hsame⟩ := X2.leave (v := some (.int (0 : Int32))) (fun h => by rw [Bd.returns] at h; cases h)
  refine ⟨_, _, ?_, hrun, hended, _, _, rfl, ?_, ⟨_, rfl⟩, hW, hsame.mono (by decide) (by decide)⟩
  · rw [← hG0]
    refine K3 _ ?_
    exact retN X2 hx (t := .boolean) Bd.returns (by simp) (hb hby d14_63) hr
  · show Q14s Z a0 a1 h0 n0 _ T2.heap _
    rw [e2]
    exact ⟨rfl, N0, rfl⟩
theorem d15_0 : decode method_4_code 0 = .ok (.iload_n 1, 1) := by decide +kernel
theorem d15_1 : decode method_4_code 1 = .ok (.iload_n 3, 1) := by decide +kernel
theorem d15_2 : decode method_4_code 2 = .ok (.if_icmp .ne 49, 3) := by decide +kernel
theorem d15_5 : decode method_4_code 5 = .ok (.iload_n 1, 1) := by decide +kernel
theorem d15_6 : decode method_4_code 6 = .ok (.iconst 1, 1) := by decide +kernel
theorem d15_7 : decode method_4_code 7 = .ok (.if_icmp .lt 16, 3) := by decide +kernel
theorem d15_10 : decode method_4_code 10 = .ok (.iload_n 0, 1) := by decide +kernel
theorem d15_11 : decode method_4_code 11 = .ok (.sipush 255, 3) := by decide +kernel
theorem d15_14 : decode method_4_code 14 = .ok (.iand, 1) := by decide +kernel
theorem d15_15 : decode method_4_code 15 = .ok (.iload_n 2, 1) := by decide +kernel
theorem d15_16 : decode method_4_code 16 = .ok (.sipush 255, 3) := by decide +kernel
theorem d15_19 : decode method_4_code 19 = .ok (.iand, 1) := by decide +kernel
theorem d15_20 : decode method_4_code 20 = .ok (.if_icmp .ne 31, 3) := by decide +kernel
theorem d15_23 : decode method_4_code 23 = .ok (.iload_n 1, 1) := by decide +kernel
theorem d15_24 : decode method_4_code 24 = .ok (.iconst 2, 1) := by decide +kernel
theorem d15_25 : decode method_4_code 25 = .ok (.if_icmp .lt 22, 3) := by decide +kernel
theorem d15_28 : decode method_4_code 28 = .ok (.iload_n 0, 1) := by decide +kernel
theorem d15_29 : decode method_4_code 29 = .ok (.bipush 8, 2) := by decide +kernel
theorem d15_31 : decode method_4_code 31 = .ok (.iushr, 1) := by decide +kernel
theorem d15_32 : decode method_4_code 32 = .ok (.sipush 255, 3) := by decide +kernel
theorem d15_35 : decode method_4_code 35 = .ok (.iand, 1) := by decide +kernel
theorem d15_36 : decode method_4_code 36 = .ok (.iload_n 2, 1) := by decide +kernel
theorem d15_37 : decode method_4_code 37 = .ok (.bipush 8, 2) := by decide +kernel
theorem d15_39 : decode method_4_code 39 = .ok (.iushr, 1) := by decide +kernel
theorem d15_40 : decode method_4_code 40 = .ok (.sipush 255, 3) := by decide +kernel
theorem d15_43 : decode method_4_code 43 = .ok (.iand, 1) := by decide +kernel
theorem d15_44 : decode method_4_code 44 = .ok (.if_icmp .ne 7, 3) := by decide +kernel
theorem d15_47 : decode method_4_code 47 = .ok (.iconst 1, 1) := by decide +kernel
theorem d15_48 : decode method_4_code 48 = .ok (.goto 4, 3) := by decide +kernel
theorem d15_51 : decode method_4_code 51 = .ok (.iconst 0, 1) := by decide +kernel
theorem d15_52 : decode method_4_code 52 = .ok (.ireturn, 1) := by decide +kernel
theorem ef_rm15 (m : MethodId) (p0 : Int32) (p1 : Int32) (p2 : Int32) (p3 : Int32) : entryFrame m #[(.int p0), (.int p1), (.int p2), (.int p3)] 4 = (mkF m 0 #[.val (.int p0), .val (.int p1), .val (.int p2), .val (.int p3)] []) := by first | (simp [entryFrame, mkF, argsToLocals, Value.category]; done) | rfl
def Q15 (Z : State) (p0 : Int32) (p1 : Int32) (p2 : Int32) (p3 : Int32) (h0 : Heap) (n0 : Nat) (v : Option Value) (h : Heap) (L : List Loc) : Prop := v = some (.int (own_same p0 p1 p2 p3)) ∧ Fr n0 L ∧ h = h0
set_option maxRecDepth 65536 in
set_option maxHeartbeats 40000000 in
theorem rm15 (l : Launch) (Z : State) (aa : Array Value) (hw : ∀ d ∈ tables_1, d.before aa Z = true) (ws : List Jvm.Cond) (p0 : Int32) (p1 : Int32) (p2 : Int32) (p3 : Int32) (h0 : Heap) (n0 : Nat) (Z0 : n0 ≤ h0.size) :
    MetFree l (⟨"com/example/lichen/lichen/model/PolicyIdentifierEqualsPinLaw", "same", "(IIII)Z"⟩ : MethodName) (head1 (Jvm.Cond.code (⟨"com/example/lichen/lichen/model/PolicyIdentifierEqualsPinLaw", "same", "(IIII)Z"⟩ : MethodName) method_4_code 4 (some .boolean) :: ws) ({ frames := 0, cells := 0, slots := 0, locals := 0 } : Room)) (fun a U => a = #[(.int p0), (.int p1), (.int p2), (.int p3)] ∧ Z.Warmed39 U.vm ∧ U.heap = h0) (fun _ _ _ _ _ => True) (fun _ U o U' => ∃ v L, o = .returned v ∧ Q15 Z p0 p1 p2 p3 h0 n0 v U'.heap L ∧ FrameEnd U o U' L ({ frames := 0, cells := 0, slots := 0, locals := 0 } : Room).cells ({ frames := 0, cells := 0, slots := 0, locals := 0 } : Room).slots) := by
  refine MetFree.of_bodySF (plainFor_of_name pn_com_example_lichen_lichen_model_PolicyIdentifierEqualsPinLaw) hisR ?_
  intro p e s m args below meth c s₁ Bd hml0 hP hK
  obtain ⟨rfl, hZ, hh⟩ := hP
  have hx := Bd.exec
  have hby := Bd.bytes
  have hml : c.maxLocals = 4 := hml0
  have hown : s.vm.findClass "com/example/lichen/lichen/model/PolicyIdentifierEqualsPinLaw" = some m.cls := findClass_of_methodNamed Bd.named
  have hnm := (name_of_methodNamed Bd.named Bd.method).1
  have X0 : Stand p l e ({ frames := 0, cells := 0, slots := 0, locals := 0 } : Room) s m #[(.int p0), (.int p1), (.int p2), (.int p3)] below meth c s₁ [] 0 0 := Stand.of_body Bd
  have e0 : s₁.heap = h0 := by rw [← hh, Bd.state]; rfl
  have N0 := Fr.nil n0
  obtain ⟨G0, hG0⟩ : ∃ G, G = s₁.setTop (entryFrame m #[(.int p0), (.int p1), (.int p2), (.int p3)] 4) := ⟨_, rfl⟩
  have K0 : ∀ t, Steps p.tables e below (s₁.setTop (mkF m 0 #[.val (.int p0), .val (.int p1), .val (.int p2), .val (.int p3)] [])) t → Steps p.tables e below G0 t := fun t k => by rw [hG0]; exact castTop (ef_rm15 m p0 p1 p2 p3) k
  have K1 : ∀ t, Steps p.tables e below (s₁.setTop (mkF m 2 #[.val (.int p0), .val (.int p1), .val (.int p2), .val (.int p3)] [(.int p3), (.int p1)])) t → Steps p.tables e below G0 t := by
    intro t kt
    refine K0 t ?_
    refine XS.iloadN X0.here hx rfl (hb hby d15_0) rfl ?_
    show Steps p.tables e below (s₁.setTop (mkF m 1 #[.val (.int p0), .val (.int p1), .val (.int p2), .val (.int p3)] [(.int p1)])) _
    refine XS.iloadN X0.here hx rfl (hb hby d15_1) rfl ?_
    show Steps p.tables e below (s₁.setTop (mkF m 2 #[.val (.int p0), .val (.int p1), .val (.int p2), .val (.int p3)] [(.int p3), (.int p1)])) _
    exact kt
  by_cases hc2 : p1 = p3
  ·
    have K3 : ∀ t, Steps p.tables e below (s₁.setTop (mkF m 7 #[.val (.int p0), .val (.int p1), .val (.int p2), .val (.int p3)] [(.int (1 : Int32)), (.int p1)])) t → Steps p.tables e below G0 t := by
      intro t kt
      refine K1 t ?_
      refine XS.icmpNo X0.here hx rfl (hb hby d15_2) rfl (teq hc2).2 ?_
      show Steps p.tables e below (s₁.setTop (mkF m 5 #[.val (.int p0), .val (.int p1), .val (.int p2), .val (.int p3)] [])) _
      refine XS.iloadN X0.here hx rfl (hb hby d15_5) rfl ?_
      show Steps p.tables e below (s₁.setTop (mkF m 6 #[.val (.int p0), .val (.int p1), .val (.int p2), .val (.int p3)] [(.int p1)])) _
      refine XS.iconst X0.here hx rfl (hb hby d15_6) ?_
      show Steps p.tables e below (s₁.setTop (mkF m 7 #[.val (.int p0), .val (.int p1), .val (.int p2), .val (.int p3)] [(.int (1 : Int32)), (.int p1)])) _
      exact kt
    by_cases hc4 : p1 < (1 : Int32)
    ·
      have K5 : ∀ t, Steps p.tables e below (s₁.setTop (mkF m 25 #[.val (.int p0), .val (.int p1), .val (.int p2), .val (.int p3)] [(.int (2 : Int32)), (.int p1)])) t → Steps p.tables e below G0 t := by
        intro t kt
        refine K3 t ?_
        refine XS.icmpYes X0.here hx rfl (pc0 := 7) (pc' := 23) rfl (hb hby d15_7) rfl (tlt hc4).1 (by decide) (by decide) ?_
        show Steps p.tables e below (s₁.setTop (mkF m 23 #[.val (.int p0), .val (.int p1), .val (.int p2), .val (.int p3)] [])) _
        refine XS.iloadN X0.here hx rfl (hb hby d15_23) rfl ?_
        show Steps p.tables e below (s₁.setTop (mkF m 24 #[.val (.int p0), .val (.int p1), .val (.int p2), .val (.int p3)] [(.int p1)])) _
        refine XS.iconst X0.here hx rfl (hb hby d15_24) ?_
        show Steps p.tables e below (s₁.setTop (mkF m 25 #[.val (.int p0), .val (.int p1), .val (.int p2), .val (.int p3)] [(.int (2 : Int32)), (.int p1)])) _
        exact kt
      by_cases hc6 : p1 < (2 : Int32)
      ·
        have K7 : ∀ t, Steps p.tables e below (s₁.setTop (mkF m 52 #[.val (.int p0), .val (.int p1), .val (.int p2), .val (.int p3)] [(.int (1 : Int32))])) t → Steps p.tables e below G0 t := by
          intro t kt
          refine K5 t ?_
          refine XS.icmpYes X0.here hx rfl (pc0 := 25) (pc' := 47) rfl (hb hby d15_25) rfl (tlt hc6).1 (by decide) (by decide) ?_
          show Steps p.tables e below (s₁.setTop (mkF m 47 #[.val (.int p0), .val (.int p1), .val (.int p2), .val (.int p3)] [])) _
          refine XS.iconst X0.here hx rfl (hb hby d15_47) ?_
          show Steps p.tables e below (s₁.setTop (mkF m 48 #[.val (.int p0), .val (.int p1), .val (.int p2), .val (.int p3)] [(.int (1 : Int32))])) _
          refine XS.goto X0.here hx rfl (pc0 := 48) (pc' := 52) rfl (hb hby d15_48) (by decide) (by decide) ?_
          show Steps p.tables e below (s₁.setTop (mkF m 52 #[.val (.int p0), .val (.int p1), .val (.int p2), .val (.int p3)] [(.int (1 : Int32))])) _
          exact kt
        obtain ⟨fs, hr, hrun, hended, hW, hsame⟩ := X0.leave (v := some (.int (1 : Int32))) (fun h => by rw [Bd.returns] at h; cases h)
        refine ⟨_, _, ?_, hrun, hended, _, _, rfl, ?_, ⟨_, rfl⟩, hW, hsame.mono (by decide) (by decide)⟩
        · rw [← hG0]
          refine K7 _ ?_
          exact retN X0 hx (t := .boolean) Bd.returns (by simp) (hb hby d15_52) hr
        · show Q15 Z p0 p1 p2 p3 h0 n0 _ s₁.heap _
          rw [e0]
          exact ⟨by rw [own_same, if_pos hc2, if_pos hc4, if_pos hc6], N0, rfl⟩
      ·
        have K8 : ∀ t, Steps p.tables e below (s₁.setTop (mkF m 44 #[.val (.int p0), .val (.int p1), .val (.int p2), .val (.int p3)] [(.int (((p2.toUInt32 >>> ((8 : Int32) &&& 31).toUInt32).toInt32) &&& (255 : Int32))), (.int (((p0.toUInt32 >>> ((8 : Int32) &&& 31).toUInt32).toInt32) &&& (255 : Int32)))])) t → Steps p.tables e below G0 t := by
          intro t kt
          refine K5 t ?_
          refine XS.icmpNo X0.here hx rfl (hb hby d15_25) rfl (flt hc6).1 ?_
          show Steps p.tables e below (s₁.setTop (mkF m 28 #[.val (.int p0), .val (.int p1), .val (.int p2), .val (.int p3)] [])) _
          refine XS.iloadN X0.here hx rfl (hb hby d15_28) rfl ?_
          show Steps p.tables e below (s₁.setTop (mkF m 29 #[.val (.int p0), .val (.int p1), .val (.int p2), .val (.int p3)] [(.int p0)])) _
          refine XS.bipush X0.here hx rfl (hb hby d15_29) ?_
          show Steps p.tables e below (s₁.setTop (mkF m 31 #[.val (.int p0), .val (.int p1), .val (.int p2), .val (.int p3)] [(.int (8 : Int32)), (.int p0)])) _
          refine XS.iushr X0.here hx rfl (hb hby d15_31) rfl ?_
          show Steps p.tables e below (s₁.setTop (mkF m 32 #[.val (.int p0), .val (.int p1), .val (.int p2), .val (.int p3)] [(.int ((p0.toUInt32 >>> ((8 : Int32) &&& 31).toUInt32).toInt32))])) _
          refine XS.sipush X0.here hx rfl (hb hby d15_32) ?_
          show Steps p.tables e below (s₁.setTop (mkF m 35 #[.val (.int p0), .val (.int p1), .val (.int p2), .val (.int p3)] [(.int (255 : Int32)), (.int ((p0.toUInt32 >>> ((8 : Int32) &&& 31).toUInt32).toInt32))])) _
          refine XS.iand X0.here hx rfl (hb hby d15_35) rfl ?_
          show Steps p.tables e below (s₁.setTop (mkF m 36 #[.val (.int p0), .val (.int p1), .val (.int p2), .val (.int p3)] [(.int (((p0.toUInt32 >>> ((8 : Int32) &&& 31).toUInt32).toInt32) &&& (255 : Int32)))])) _
          refine XS.iloadN X0.here hx rfl (hb hby d15_36) rfl ?_
          show Steps p.tables e below (s₁.setTop (mkF m 37 #[.val (.int p0), .val (.int p1), .val (.int p2), .val (.int p3)] [(.int p2), (.int (((p0.toUInt32 >>> ((8 : Int32) &&& 31).toUInt32).toInt32) &&& (255 : Int32)))])) _
          refine XS.bipush X0.here hx rfl (hb hby d15_37) ?_
          show Steps p.tables e below (s₁.setTop (mkF m 39 #[.val (.int p0), .val (.int p1), .val (.int p2), .val (.int p3)] [(.int (8 : Int32)), (.int p2), (.int (((p0.toUInt32 >>> ((8 : Int32) &&& 31).toUInt32).toInt32) &&& (255 : Int32)))])) _
          refine XS.iushr X0.here hx rfl (hb hby d15_39) rfl ?_
          show Steps p.tables e below (s₁.setTop (mkF m 40 #[.val (.int p0), .val (.int p1), .val (.int p2), .val (.int p3)] [(.int ((p2.toUInt32 >>> ((8 : Int32) &&& 31).toUInt32).toInt32)), (.int (((p0.toUInt32 >>> ((8 : Int32) &&& 31).toUInt32).toInt32) &&& (255 : Int32)))])) _
          refine XS.sipush X0.here hx rfl (hb hby d15_40) ?_
          show Steps p.tables e below (s₁.setTop (mkF m 43 #[.val (.int p0), .val (.int p1), .val (.int p2), .val (.int p3)] [(.int (255 : Int32)), (.int ((p2.toUInt32 >>> ((8 : Int32) &&& 31).toUInt32).toInt32)), (.int (((p0.toUInt32 >>> ((8 : Int32) &&& 31).toUInt32).toInt32) &&& (255 : Int32)))])) _
          refine XS.iand X0.here hx rfl (hb hby d15_43) rfl ?_
          show Steps p.tables e below (s₁.setTop (mkF m 44 #[.val (.int p0), .val (.int p1), .val (.int p2), .val (.int p3)] [(.int (((p2.toUInt32 >>> ((8 : Int32) &&& 31).toUInt32).toInt32) &&& (255 : Int32))), (.int (((p0.toUInt32 >>> ((8 : Int32) &&& 31).toUInt32).toInt32) &&& (255 : Int32)))])) _
          exact kt
        by_cases hc9 : ((own_sh p0) &&& (255 : Int32)) = ((own_sh p2) &&& (255 : Int32))
        ·
          have K10 : ∀ t, Steps p.tables e below (s₁.setTop (mkF m 52 #[.val (.int p0), .val (.int p1), .val (.int p2), .val (.int p3)] [(.int (1 : Int32))])) t → Steps p.tables e below G0 t := by
            intro t kt
            refine K8 t ?_
            refine XS.icmpNo X0.here hx rfl (hb hby d15_44) rfl (teq hc9).2 ?_
            show Steps p.tables e below (s₁.setTop (mkF m 47 #[.val (.int p0), .val (.int p1), .val (.int p2), .val (.int p3)] [])) _
            refine XS.iconst X0.here hx rfl (hb hby d15_47) ?_
            show Steps p.tables e below (s₁.setTop (mkF m 48 #[.val (.int p0), .val (.int p1), .val (.int p2), .val (.int p3)] [(.int (1 : Int32))])) _
            refine XS.goto X0.here hx rfl (pc0 := 48) (pc' := 52) rfl (hb hby d15_48) (by decide) (by decide) ?_
            show Steps p.tables e below (s₁.setTop (mkF m 52 #[.val (.int p0), .val (.int p1), .val (.int p2), .val (.int p3)] [(.int (1 : Int32))])) _
            exact kt
          obtain ⟨fs, hr, hrun, hended, hW, hsame⟩ := X0.leave (v := some (.int (1 : Int32))) (fun h => by rw [Bd.returns] at h; cases h)
          refine ⟨_, _, ?_, hrun, hended, _, _, rfl, ?_, ⟨_, rfl⟩, hW, hsame.mono (by decide) (by decide)⟩
          · rw [← hG0]
            refine K10 _ ?_
            exact retN X0 hx (t := .boolean) Bd.returns (by simp) (hb hby d15_52) hr
          · show Q15 Z p0 p1 p2 p3 h0 n0 _ s₁.heap _
            rw [e0]
            exact ⟨by rw [own_same, if_pos hc2, if_pos hc4, if_neg hc6, if_pos hc9], N0, rfl⟩
        ·
          have K11 : ∀ t, Steps p.tables e below (s₁.setTop (mkF m 52 #[.val (.int p0), .val (.int p1), .val (.int p2), .val (.int p3)] [(.int (0 : Int32))])) t → Steps p.tables e below G0 t := by
            intro t kt
            refine K8 t ?_
            refine XS.icmpYes X0.here hx rfl (pc0 := 44) (pc' := 51) rfl (hb hby d15_44) rfl (feq hc9).2 (by decide) (by decide) ?_
            show Steps p.tables e below (s₁.setTop (mkF m 51 #[.val (.int p0), .val (.int p1), .val (.int p2), .val (.int p3)] [])) _
            refine XS.iconst X0.here hx rfl (hb hby d15_51) ?_
            show Steps p.tables e below (s₁.setTop (mkF m 52 #[.val (.int p0), .val (.int p1), .val (.int p2), .val (.int p3)] [(.int (0 : Int32))])) _
            exact kt
          obtain ⟨fs, hr, hrun, hended, hW, hsame⟩ := X0.leave (v := some (.int (0 : Int32))) (fun h => by rw [Bd.returns] at h; cases h)
          refine ⟨_, _, ?_, hrun, hended, _, _, rfl, ?_, ⟨_, rfl⟩, hW, hsame.mono (by decide) (by decide)⟩
          · rw [← hG0]
            refine K11 _ ?_
            exact retN X0 hx (t := .boolean) Bd.returns (by simp) (hb hby d15_52) hr
          · show Q15 Z p0 p1 p2 p3 h0 n0 _ s₁.heap _
            rw [e0]
            exact ⟨by rw [own_same, if_pos hc2, if_pos hc4, if_neg hc6, if_neg hc9], N0, rfl⟩
    ·
      have K12 : ∀ t, Steps p.tables e below (s₁.setTop (mkF m 20 #[.val (.int p0), .val (.int p1), .val (.int p2), .val (.int p3)] [(.int (p2 &&& (255 : Int32))), (.int (p0 &&& (255 : Int32)))])) t → Steps p.tables e below G0 t := by
        intro t kt
        refine K3 t ?_
        refine XS.icmpNo X0.here hx rfl (hb hby d15_7) rfl (flt hc4).1 ?_
        show Steps p.tables e below (s₁.setTop (mkF m 10 #[.val (.int p0), .val (.int p1), .val (.int p2), .val (.int p3)] [])) _
        refine XS.iloadN X0.here hx rfl (hb hby d15_10) rfl ?_
        show Steps p.tables e below (s₁.setTop (mkF m 11 #[.val (.int p0), .val (.int p1), .val (.int p2), .val (.int p3)] [(.int p0)])) _
        refine XS.sipush X0.here hx rfl (hb hby d15_11) ?_
        show Steps p.tables e below (s₁.setTop (mkF m 14 #[.val (.int p0), .val (.int p1), .val (.int p2), .val (.int p3)] [(.int (255 : Int32)), (.int p0)])) _
        refine XS.iand X0.here hx rfl (hb hby d15_14) rfl ?_
        show Steps p.tables e below (s₁.setTop (mkF m 15 #[.val (.int p0), .val (.int p1), .val (.int p2), .val (.int p3)] [(.int (p0 &&& (255 : Int32)))])) _
        refine XS.iloadN X0.here hx rfl (hb hby d15_15) rfl ?_
        show Steps p.tables e below (s₁.setTop (mkF m 16 #[.val (.int p0), .val (.int p1), .val (.int p2), .val (.int p3)] [(.int p2), (.int (p0 &&& (255 : Int32)))])) _
        refine XS.sipush X0.here hx rfl (hb hby d15_16) ?_
        show Steps p.tables e below (s₁.setTop (mkF m 19 #[.val (.int p0), .val (.int p1), .val (.int p2), .val (.int p3)] [(.int (255 : Int32)), (.int p2), (.int (p0 &&& (255 : Int32)))])) _
        refine XS.iand X0.here hx rfl (hb hby d15_19) rfl ?_
        show Steps p.tables e below (s₁.setTop (mkF m 20 #[.val (.int p0), .val (.int p1), .val (.int p2), .val (.int p3)] [(.int (p2 &&& (255 : Int32))), (.int (p0 &&& (255 : Int32)))])) _
        exact kt
      by_cases hc13 : (p0 &&& (255 : Int32)) = (p2 &&& (255 : Int32))
      ·
        have K14 : ∀ t, Steps p.tables e below (s₁.setTop (mkF m 25 #[.val (.int p0), .val (.int p1), .val (.int p2), .val (.int p3)] [(.int (2 : Int32)), (.int p1)])) t → Steps p.tables e below G0 t := by
          intro t kt
          refine K12 t ?_
          refine XS.icmpNo X0.here hx rfl (hb hby d15_20) rfl (teq hc13).2 ?_
          show Steps p.tables e below (s₁.setTop (mkF m 23 #[.val (.int p0), .val (.int p1), .val (.int p2), .val (.int p3)] [])) _
          refine XS.iloadN X0.here hx rfl (hb hby d15_23) rfl ?_
          show Steps p.tables e below (s₁.setTop (mkF m 24 #[.val (.int p0), .val (.int p1), .val (.int p2), .val (.int p3)] [(.int p1)])) _
          refine XS.iconst X0.here hx rfl (hb hby d15_24) ?_
          show Steps p.tables e below (s₁.setTop (mkF m 25 #[.val (.int p0), .val (.int p1), .val (.int p2), .val (.int p3)] [(.int (2 : Int32)), (.int p1)])) _
          exact kt
        by_cases hc15 : p1 < (2 : Int32)
        ·
          have K16 : ∀ t, Steps p.tables e below (s₁.setTop (mkF m 52 #[.val (.int p0), .val (.int p1), .val (.int p2), .val (.int p3)] [(.int (1 : Int32))])) t → Steps p.tables e below G0 t := by
            intro t kt
            refine K14 t ?_
            refine XS.icmpYes X0.here hx rfl (pc0 := 25) (pc' := 47) rfl (hb hby d15_25) rfl (tlt hc15).1 (by decide) (by decide) ?_
            show Steps p.tables e below (s₁.setTop (mkF m 47 #[.val (.int p0), .val (.int p1), .val (.int p2), .val (.int p3)] [])) _
            refine XS.iconst X0.here hx rfl (hb hby d15_47) ?_
            show Steps p.tables e below (s₁.setTop (mkF m 48 #[.val (.int p0), .val (.int p1), .val (.int p2), .val (.int p3)] [(.int (1 : Int32))])) _
            refine XS.goto X0.here hx rfl (pc0 := 48) (pc' := 52) rfl (hb hby d15_48) (by decide) (by decide) ?_
            show Steps p.tables e below (s₁.setTop (mkF m 52 #[.val (.int p0), .val (.int p1), .val (.int p2), .val (.int p3)] [(.int (1 : Int32))])) _
            exact kt
          obtain ⟨fs, hr, hrun, hended, hW, hsame⟩ := X0.leave (v := some (.int (1 : Int32))) (fun h => by rw [Bd.returns] at h; cases h)
          refine ⟨_, _, ?_, hrun, hended, _, _, rfl, ?_, ⟨_, rfl⟩, hW, hsame.mono (by decide) (by decide)⟩
          · rw [← hG0]
            refine K16 _ ?_
            exact retN X0 hx (t := .boolean) Bd.returns (by simp) (hb hby d15_52) hr
          · show Q15 Z p0 p1 p2 p3 h0 n0 _ s₁.heap _
            rw [e0]
            exact ⟨by rw [own_same, if_pos hc2, if_neg hc4, if_pos hc13, if_pos hc15], N0, rfl⟩
        ·
          have K17 : ∀ t, Steps p.tables e below (s₁.setTop (mkF m 44 #[.val (.int p0), .val (.int p1), .val (.int p2), .val (.int p3)] [(.int (((p2.toUInt32 >>> ((8 : Int32) &&& 31).toUInt32).toInt32) &&& (255 : Int32))), (.int (((p0.toUInt32 >>> ((8 : Int32) &&& 31).toUInt32).toInt32) &&& (255 : Int32)))])) t → Steps p.tables e below G0 t := by
            intro t kt
            refine K14 t ?_
            refine XS.icmpNo X0.here hx rfl (hb hby d15_25) rfl (flt hc15).1 ?_
            show Steps p.tables e below (s₁.setTop (mkF m 28 #[.val (.int p0), .val (.int p1), .val (.int p2), .val (.int p3)] [])) _
            refine XS.iloadN X0.here hx rfl (hb hby d15_28) rfl ?_
            show Steps p.tables e below (s₁.setTop (mkF m 29 #[.val (.int p0), .val (.int p1), .val (.int p2), .val (.int p3)] [(.int p0)])) _
            refine XS.bipush X0.here hx rfl (hb hby d15_29) ?_
            show Steps p.tables e below (s₁.setTop (mkF m 31 #[.val (.int p0), .val (.int p1), .val (.int p2), .val (.int p3)] [(.int (8 : Int32)), (.int p0)])) _
            refine XS.iushr X0.here hx rfl (hb hby d15_31) rfl ?_
            show Steps p.tables e below (s₁.setTop (mkF m 32 #[.val (.int p0), .val (.int p1), .val (.int p2), .val (.int p3)] [(.int ((p0.toUInt32 >>> ((8 : Int32) &&& 31).toUInt32).toInt32))])) _
            refine XS.sipush X0.here hx rfl (hb hby d15_32) ?_
            show Steps p.tables e below (s₁.setTop (mkF m 35 #[.val (.int p0), .val (.int p1), .val (.int p2), .val (.int p3)] [(.int (255 : Int32)), (.int ((p0.toUInt32 >>> ((8 : Int32) &&& 31).toUInt32).toInt32))])) _
            refine XS.iand X0.here hx rfl (hb hby d15_35) rfl ?_
            show Steps p.tables e below (s₁.setTop (mkF m 36 #[.val (.int p0), .val (.int p1), .val (.int p2), .val (.int p3)] [(.int (((p0.toUInt32 >>> ((8 : Int32) &&& 31).toUInt32).toInt32) &&& (255 : Int32)))])) _
            refine XS.iloadN X0.here hx rfl (hb hby d15_36) rfl ?_
            show Steps p.tables e below (s₁.setTop (mkF m 37 #[.val (.int p0), .val (.int p1), .val (.int p2), .val (.int p3)] [(.int p2), (.int (((p0.toUInt32 >>> ((8 : Int32) &&& 31).toUInt32).toInt32) &&& (255 : Int32)))])) _
            refine XS.bipush X0.here hx rfl (hb hby d15_37) ?_
            show Steps p.tables e below (s₁.setTop (mkF m 39 #[.val (.int p0), .val (.int p1), .val (.int p2), .val (.int p3)] [(.int (8 : Int32)), (.int p2), (.int (((p0.toUInt32 >>> ((8 : Int32) &&& 31).toUInt32).toInt32) &&& (255 : Int32)))])) _
            refine XS.iushr X0.here hx rfl (hb hby d15_39) rfl ?_
            show Steps p.tables e below (s₁.setTop (mkF m 40 #[.val (.int p0), .val (.int p1), .val (.int p2), .val (.int p3)] [(.int ((p2.toUInt32 >>> ((8 : Int32) &&& 31).toUInt32).toInt32)), (.int (((p0.toUInt32 >>> ((8 : Int32) &&& 31).toUInt32).toInt32) &&& (255 : Int32)))])) _
            refine XS.sipush X0.here hx rfl (hb hby d15_40) ?_
            show Steps p.tables e below (s₁.setTop (mkF m 43 #[.val (.int p0), .val (.int p1), .val (.int p2), .val (.int p3)] [(.int (255 : Int32)), (.int ((p2.toUInt32 >>> ((8 : Int32) &&& 31).toUInt32).toInt32)), (.int (((p0.toUInt32 >>> ((8 : Int32) &&& 31).toUInt32).toInt32) &&& (255 : Int32)))])) _
            refine XS.iand X0.here hx rfl (hb hby d15_43) rfl ?_
            show Steps p.tables e below (s₁.setTop (mkF m 44 #[.val (.int p0), .val (.int p1), .val (.int p2), .val (.int p3)] [(.int (((p2.toUInt32 >>> ((8 : Int32) &&& 31).toUInt32).toInt32) &&& (255 : Int32))), (.int (((p0.toUInt32 >>> ((8 : Int32) &&& 31).toUInt32).toInt32) &&& (255 : Int32)))])) _
            exact kt
          by_cases hc18 : ((own_sh p0) &&& (255 : Int32)) = ((own_sh p2) &&& (255 : Int32))
          ·
            have K19 : ∀ t, Steps p.tables e below (s₁.setTop (mkF m 52 #[.val (.int p0), .val (.int p1), .val (.int p2), .val (.int p3)] [(.int (1 : Int32))])) t → Steps p.tables e below G0 t := by
              intro t kt
              refine K17 t ?_
              refine XS.icmpNo X0.here hx rfl (hb hby d15_44) rfl (teq hc18).2 ?_
              show Steps p.tables e below (s₁.setTop (mkF m 47 #[.val (.int p0), .val (.int p1), .val (.int p2), .val (.int p3)] [])) _
              refine XS.iconst X0.here hx rfl (hb hby d15_47) ?_
              show Steps p.tables e below (s₁.setTop (mkF m 48 #[.val (.int p0), .val (.int p1), .val (.int p2), .val (.int p3)] [(.int (1 : Int32))])) _
              refine XS.goto X0.here hx rfl (pc0 := 48) (pc' := 52) rfl (hb hby d15_48) (by decide) (by decide) ?_
              show Steps p.tables e below (s₁.setTop (mkF m 52 #[.val (.int p0), .val (.int p1), .val (.int p2), .val (.int p3)] [(.int (1 : Int32))])) _
              exact kt
            obtain ⟨fs, hr, hrun, hended, hW, hsame⟩ := X0.leave (v := some (.int (1 : Int32))) (fun h => by rw [Bd.returns] at h; cases h)
            refine ⟨_, _, ?_, hrun, hended, _, _, rfl, ?_, ⟨_, rfl⟩, hW, hsame.mono (by decide) (by decide)⟩
            · rw [← hG0]
              refine K19 _ ?_
              exact retN X0 hx (t := .boolean) Bd.returns (by simp) (hb hby d15_52) hr
            · show Q15 Z p0 p1 p2 p3 h0 n0 _ s₁.heap _
              rw [e0]
              exact ⟨by rw [own_same, if_pos hc2, if_neg hc4, if_pos hc13, if_neg hc15, if_pos hc18], N0, rfl⟩
          ·
            have K20 : ∀ t, Steps p.tables e below (s₁.setTop (mkF m 52 #[.val (.int p0), .val (.int p1), .val (.int p2), .val (.int p3)] [(.int (0 : Int32))])) t → Steps p.tables e below G0 t := by
              intro t kt
              refine K17 t ?_
              refine XS.icmpYes X0.here hx rfl (pc0 := 44) (pc' := 51) rfl (hb hby d15_44) rfl (feq hc18).2 (by decide) (by decide) ?_
              show Steps p.tables e below (s₁.setTop (mkF m 51 #[.val (.int p0), .val (.int p1), .val (.int p2), .val (.int p3)] [])) _
              refine XS.iconst X0.here hx rfl (hb hby d15_51) ?_
              show Steps p.tables e below (s₁.setTop (mkF m 52 #[.val (.int p0), .val (.int p1), .val (.int p2), .val (.int p3)] [(.int (0 : Int32))])) _
              exact kt
            obtain ⟨fs, hr, hrun, hended, hW, hsame⟩ := X0.leave (v := some (.int (0 : Int32))) (fun h => by rw [Bd.returns] at h; cases h)
            refine ⟨_, _, ?_, hrun, hended, _, _, rfl, ?_, ⟨_, rfl⟩, hW, hsame.mono (by decide) (by decide)⟩
            · rw [← hG0]
              refine K20 _ ?_
              exact retN X0 hx (t := .boolean) Bd.returns (by simp) (hb hby d15_52) hr
            · show Q15 Z p0 p1 p2 p3 h0 n0 _ s₁.heap _
              rw [e0]
              exact ⟨by rw [own_same, if_pos hc2, if_neg hc4, if_pos hc13, if_neg hc15, if_neg hc18], N0, rfl⟩
      ·
        have K21 : ∀ t, Steps p.tables e below (s₁.setTop (mkF m 52 #[.val (.int p0), .val (.int p1), .val (.int p2), .val (.int p3)] [(.int (0 : Int32))])) t → Steps p.tables e below G0 t := by
          intro t kt
          refine K12 t ?_
          refine XS.icmpYes X0.here hx rfl (pc0 := 20) (pc' := 51) rfl (hb hby d15_20) rfl (feq hc13).2 (by decide) (by decide) ?_
          show Steps p.tables e below (s₁.setTop (mkF m 51 #[.val (.int p0), .val (.int p1), .val (.int p2), .val (.int p3)] [])) _
          refine XS.iconst X0.here hx rfl (hb hby d15_51) ?_
          show Steps p.tables e below (s₁.setTop (mkF m 52 #[.val (.int p0), .val (.int p1), .val (.int p2), .val (.int p3)] [(.int (0 : Int32))])) _
          exact kt
        obtain ⟨fs, hr, hrun, hended, hW, hsame⟩ := X0.leave (v := some (.int (0 : Int32))) (fun h => by rw [Bd.returns] at h; cases h)
        refine ⟨_, _, ?_, hrun, hended, _, _, rfl, ?_, ⟨_, rfl⟩, hW, hsame.mono (by decide) (by decide)⟩
        · rw [← hG0]
          refine K21 _ ?_
          exact retN X0 hx (t := .boolean) Bd.returns (by simp) (hb hby d15_52) hr
        · show Q15 Z p0 p1 p2 p3 h0 n0 _ s₁.heap _
          rw [e0]
          exact ⟨by rw [own_same, if_pos hc2, if_neg hc4, if_neg hc13], N0, rfl⟩
  ·
    have K22 : ∀ t, Steps p.tables e below (s₁.setTop (mkF m 52 #[.val (.int p0), .val (.int p1), .val (.int p2), .val (.int p3)] [(.int (0 : Int32))])) t → Steps p.tables e below G0 t := by
      intro t kt
      refine K1 t ?_
      refine XS.icmpYes X0.here hx rfl (pc0 := 2) (pc' := 51) rfl (hb hby d15_2) rfl (feq hc2).2 (by decide) (by decide) ?_
      show Steps p.tables e below (s₁.setTop (mkF m 51 #[.val (.int p0), .val (.int p1), .val (.int p2), .val (.int p3)] [])) _
      refine XS.iconst X0.here hx rfl (hb hby d15_51) ?_
      show Steps p.tables e below (s₁.setTop (mkF m 52 #[.val (.int p0), .val (.int p1), .val (.int p2), .val (.int p3)] [(.int (0 : Int32))])) _
      exact kt
    obtain ⟨fs, hr, hrun, hended, hW, hsame⟩ := X0.leave (v := some (.int (0 : Int32))) (fun h => by rw [Bd.returns] at h; cases h)
    refine ⟨_, _, ?_, hrun, hended, _, _, rfl, ?_, ⟨_, rfl⟩, hW, hsame.mono (by decide) (by decide)⟩
    · rw [← hG0]
      refine K22 _ ?_
      exact retN X0 hx (t := .boolean) Bd.returns (by simp) (hb hby d15_52) hr
    · show Q15 Z p0 p1 p2 p3 h0 n0 _ s₁.heap _
      rw [e0]
      exact ⟨by rw [own_same, if_neg hc2], N0, rfl⟩
theorem pd_PZQLjava_lang_String_ : parseMethodDescriptor "(Z)Ljava/lang/String;" = some ⟨[.boolean], some (.object "java/lang/String")⟩ := by decide +kernel
theorem pd_PIIQLjava_lang_String_ : parseMethodDescriptor "(II)Ljava/lang/String;" = some ⟨[.int, .int], some (.object "java/lang/String")⟩ := by decide +kernel
theorem pd_PLjava_lang_String_Ljava_lang_String_Ljava_lang_String_QV : parseMethodDescriptor "(Ljava/lang/String;Ljava/lang/String;Ljava/lang/String;)V" = some ⟨[(.object "java/lang/String"), (.object "java/lang/String"), (.object "java/lang/String")], none⟩ := by decide +kernel
theorem pd_PIIIIQZ : parseMethodDescriptor "(IIII)Z" = some ⟨[.int, .int, .int, .int], some .boolean⟩ := by decide +kernel
theorem ef_rm0 (m : MethodId) (p0 : Int32) (p1 : Int32) (p2 : Int32) (p3 : Int32) : entryFrame m #[(.int p0), (.int p1), (.int p2), (.int p3)] maxLocals = (mkF m 0 #[.val (.int p0), .val (.int p1), .val (.int p2), .val (.int p3), .unset, .unset, .unset, .unset, .unset, .unset, .unset, .unset, .unset, .unset, .unset] []) := by first | (simp [entryFrame, mkF, argsToLocals, Value.category, maxLocals]; done) | rfl
def Q0 (Z : State) (p0 : Int32) (p1 : Int32) (p2 : Int32) (p3 : Int32) (G1 : Int32) (h0 : Heap) (n0 : Nat) (v : Option Value) (h : Heap) (L : List Loc) : Prop := v = some (.int 1) ∧ Fr n0 L
set_option maxRecDepth 65536 in
set_option maxHeartbeats 40000000 in
theorem rm0 (l : Launch) (Z : State) (aa : Array Value) (hw : ∀ d ∈ tables_1, d.before aa Z = true) (hEL : EW Z aa consts_1) (ws : List Jvm.Cond) (p0 : Int32) (p1 : Int32) (p2 : Int32) (p3 : Int32) (G1 : Int32) (h0 : Heap) (n0 : Nat) (Z0 : n0 ≤ h0.size) (O2 : Sta Z Z.heap "java/lang/String" "COMPACT_STRINGS" "Z" (.int G1)) (P5 : ¬ (G1 = (0 : Int32))) (HO : Old Z n0 h0) :
    MetFree l x (head1 (Jvm.Cond.code x code maxLocals ret :: ws) room_1) (fun a U => a = #[(.int p0), (.int p1), (.int p2), (.int p3)] ∧ Z.Warmed39 U.vm ∧ U.heap = h0 ∧ CHv Z consts_1 U.vm h0) (fun _ _ _ _ _ => True) (fun _ U o U' => ∃ v L, o = .returned v ∧ Q0 Z p0 p1 p2 p3 G1 h0 n0 v U'.heap L ∧ CHr Z consts_1 U.vm U.heap U'.vm U'.heap ∧ ReturnedEndW U o U' L room_1.cells room_1.slots) := by
  refine MetFree.of_bodySF (plainFor_of_name pn_com_example_lichen_lichen_model_PolicyIdentifierEqualsPinLaw) hisR ?_
  intro p e s m args below meth c s₁ Bd hml0 hP hK
  obtain ⟨rfl, hZ, hh, hCH⟩ := hP
  have hx := Bd.exec
  have hby := Bd.bytes
  have hml : c.maxLocals = 15 := hml0
  have hown : s.vm.findClass "com/example/lichen/lichen/model/PolicyIdentifierEqualsPinLaw" = some m.cls := findClass_of_methodNamed Bd.named
  have hnm := (name_of_methodNamed Bd.named Bd.method).1
  have X0 : Stand p l e room_1 (s.setVm s.vm) m #[(.int p0), (.int p1), (.int p2), (.int p3)] below meth c s₁ [] 0 0 := (Stand.of_body Bd : Stand p l e room_1 s m #[(.int p0), (.int p1), (.int p2), (.int p3)] below meth c s₁ [] 0 0)
  have hS0 : s.Since s.vm h0.size := (State.WarmedH.refl s).since _
  have hk0 : h0.size ≤ h0.size := Nat.le_refl _
  have CH0 : CHr Z consts_1 s.vm h0 s.vm h0 := CHr.refl hCH
  have e0 : s₁.heap = h0 := by rw [← hh, Bd.state]; rfl
  have N0 := Fr.nil n0
  obtain ⟨G0, hG0⟩ : ∃ G, G = s₁.setTop (entryFrame m #[(.int p0), (.int p1), (.int p2), (.int p3)] maxLocals) := ⟨_, rfl⟩
  have K0 : ∀ t, Steps p.tables e below (s₁.setTop (mkF m 0 #[.val (.int p0), .val (.int p1), .val (.int p2), .val (.int p3), .unset, .unset, .unset, .unset, .unset, .unset, .unset, .unset, .unset, .unset, .unset] [])) t → Steps p.tables e below G0 t := fun t k => by rw [hG0]; exact castTop (ef_rm0 m p0 p1 p2 p3) k
  have K1 : ∀ t, Steps p.tables e below (s₁.setTop (mkF m 3 #[.val (.int p0), .val (.int p1), .val (.int p2), .val (.int p3), .unset, .unset, .unset, .unset, .unset, .unset, .unset, .unset, .unset, .unset, .unset] [(.int (p0 &&& (1 : Int32)))])) t → Steps p.tables e below G0 t := by
    intro t kt
    refine K0 t ?_
    refine XS.iloadN X0.here hx rfl (hb hby at_0) rfl ?_
    show Steps p.tables e below (s₁.setTop (mkF m 1 #[.val (.int p0), .val (.int p1), .val (.int p2), .val (.int p3), .unset, .unset, .unset, .unset, .unset, .unset, .unset, .unset, .unset, .unset, .unset] [(.int p0)])) _
    refine XS.iconst X0.here hx rfl (hb hby at_1) ?_
    show Steps p.tables e below (s₁.setTop (mkF m 2 #[.val (.int p0), .val (.int p1), .val (.int p2), .val (.int p3), .unset, .unset, .unset, .unset, .unset, .unset, .unset, .unset, .unset, .unset, .unset] [(.int (1 : Int32)), (.int p0)])) _
    refine XS.iand X0.here hx rfl (hb hby at_2) rfl ?_
    show Steps p.tables e below (s₁.setTop (mkF m 3 #[.val (.int p0), .val (.int p1), .val (.int p2), .val (.int p3), .unset, .unset, .unset, .unset, .unset, .unset, .unset, .unset, .unset, .unset, .unset] [(.int (p0 &&& (1 : Int32)))])) _
    exact kt
  have K2 : ∀ t, Steps p.tables e below (s₁.setTop (mkF m 13 #[.val (.int p0), .val (.int p1), .val (.int p2), .val (.int p3), .val (.int (own_bit p0 (1 : Int32))), .unset, .unset, .unset, .unset, .unset, .unset, .unset, .unset, .unset, .unset] [])) t → Steps p.tables e below G0 t := by
    by_cases hc3 : (p0 &&& (1 : Int32)) = (0 : Int32)
    ·
      have K4 : ∀ t, Steps p.tables e below (s₁.setTop (mkF m 13 #[.val (.int p0), .val (.int p1), .val (.int p2), .val (.int p3), .val (.int (0 : Int32)), .unset, .unset, .unset, .unset, .unset, .unset, .unset, .unset, .unset, .unset] [])) t → Steps p.tables e below G0 t := by
        intro t kt
        refine K1 t ?_
        refine XS.ifYes X0.here hx rfl (pc0 := 3) (pc' := 10) rfl (hb hby at_3) rfl ((if0 _ _).trans (teq hc3).1) (by decide) (by decide) ?_
        show Steps p.tables e below (s₁.setTop (mkF m 10 #[.val (.int p0), .val (.int p1), .val (.int p2), .val (.int p3), .unset, .unset, .unset, .unset, .unset, .unset, .unset, .unset, .unset, .unset, .unset] [])) _
        refine XS.iconst X0.here hx rfl (hb hby at_10) ?_
        show Steps p.tables e below (s₁.setTop (mkF m 11 #[.val (.int p0), .val (.int p1), .val (.int p2), .val (.int p3), .unset, .unset, .unset, .unset, .unset, .unset, .unset, .unset, .unset, .unset, .unset] [(.int (0 : Int32))])) _
        refine XS.istore X0.here hx rfl (hb hby at_11) rfl (l' := #[.val (.int p0), .val (.int p1), .val (.int p2), .val (.int p3), .val (.int (0 : Int32)), .unset, .unset, .unset, .unset, .unset, .unset, .unset, .unset, .unset, .unset]) rfl ?_
        show Steps p.tables e below (s₁.setTop (mkF m 13 #[.val (.int p0), .val (.int p1), .val (.int p2), .val (.int p3), .val (.int (0 : Int32)), .unset, .unset, .unset, .unset, .unset, .unset, .unset, .unset, .unset, .unset] [])) _
        exact kt
      rw [own_bit, if_pos hc3]
      exact K4
    ·
      have K5 : ∀ t, Steps p.tables e below (s₁.setTop (mkF m 13 #[.val (.int p0), .val (.int p1), .val (.int p2), .val (.int p3), .val (.int (1 : Int32)), .unset, .unset, .unset, .unset, .unset, .unset, .unset, .unset, .unset, .unset] [])) t → Steps p.tables e below G0 t := by
        intro t kt
        refine K1 t ?_
        refine XS.ifNo X0.here hx rfl (hb hby at_3) rfl ((if0 _ _).trans (feq hc3).1) ?_
        show Steps p.tables e below (s₁.setTop (mkF m 6 #[.val (.int p0), .val (.int p1), .val (.int p2), .val (.int p3), .unset, .unset, .unset, .unset, .unset, .unset, .unset, .unset, .unset, .unset, .unset] [])) _
        refine XS.iconst X0.here hx rfl (hb hby at_6) ?_
        show Steps p.tables e below (s₁.setTop (mkF m 7 #[.val (.int p0), .val (.int p1), .val (.int p2), .val (.int p3), .unset, .unset, .unset, .unset, .unset, .unset, .unset, .unset, .unset, .unset, .unset] [(.int (1 : Int32))])) _
        refine XS.goto X0.here hx rfl (pc0 := 7) (pc' := 11) rfl (hb hby at_7) (by decide) (by decide) ?_
        show Steps p.tables e below (s₁.setTop (mkF m 11 #[.val (.int p0), .val (.int p1), .val (.int p2), .val (.int p3), .unset, .unset, .unset, .unset, .unset, .unset, .unset, .unset, .unset, .unset, .unset] [(.int (1 : Int32))])) _
        refine XS.istore X0.here hx rfl (hb hby at_11) rfl (l' := #[.val (.int p0), .val (.int p1), .val (.int p2), .val (.int p3), .val (.int (1 : Int32)), .unset, .unset, .unset, .unset, .unset, .unset, .unset, .unset, .unset, .unset]) rfl ?_
        show Steps p.tables e below (s₁.setTop (mkF m 13 #[.val (.int p0), .val (.int p1), .val (.int p2), .val (.int p3), .val (.int (1 : Int32)), .unset, .unset, .unset, .unset, .unset, .unset, .unset, .unset, .unset, .unset] [])) _
        exact kt
      rw [own_bit, if_neg hc3]
      exact K5
  obtain ⟨s1, h_s1⟩ : ∃ z, z = (own_bit p0 (1 : Int32)) := ⟨_, rfl⟩
  rw [← h_s1] at K2
  have K6 : ∀ t, Steps p.tables e below (s₁.setTop (mkF m 16 #[.val (.int p0), .val (.int p1), .val (.int p2), .val (.int p3), .val (.int s1), .unset, .unset, .unset, .unset, .unset, .unset, .unset, .unset, .unset, .unset] [(.int (p0 &&& (2 : Int32)))])) t → Steps p.tables e below G0 t := by
    intro t kt
    refine K2 t ?_
    refine XS.iloadN X0.here hx rfl (hb hby at_13) rfl ?_
    show Steps p.tables e below (s₁.setTop (mkF m 14 #[.val (.int p0), .val (.int p1), .val (.int p2), .val (.int p3), .val (.int s1), .unset, .unset, .unset, .unset, .unset, .unset, .unset, .unset, .unset, .unset] [(.int p0)])) _
    refine XS.iconst X0.here hx rfl (hb hby at_14) ?_
    show Steps p.tables e below (s₁.setTop (mkF m 15 #[.val (.int p0), .val (.int p1), .val (.int p2), .val (.int p3), .val (.int s1), .unset, .unset, .unset, .unset, .unset, .unset, .unset, .unset, .unset, .unset] [(.int (2 : Int32)), (.int p0)])) _
    refine XS.iand X0.here hx rfl (hb hby at_15) rfl ?_
    show Steps p.tables e below (s₁.setTop (mkF m 16 #[.val (.int p0), .val (.int p1), .val (.int p2), .val (.int p3), .val (.int s1), .unset, .unset, .unset, .unset, .unset, .unset, .unset, .unset, .unset, .unset] [(.int (p0 &&& (2 : Int32)))])) _
    exact kt
  have K7 : ∀ t, Steps p.tables e below (s₁.setTop (mkF m 26 #[.val (.int p0), .val (.int p1), .val (.int p2), .val (.int p3), .val (.int s1), .val (.int (own_bit p0 (2 : Int32))), .unset, .unset, .unset, .unset, .unset, .unset, .unset, .unset, .unset] [])) t → Steps p.tables e below G0 t := by
    by_cases hc8 : (p0 &&& (2 : Int32)) = (0 : Int32)
    ·
      have K9 : ∀ t, Steps p.tables e below (s₁.setTop (mkF m 26 #[.val (.int p0), .val (.int p1), .val (.int p2), .val (.int p3), .val (.int s1), .val (.int (0 : Int32)), .unset, .unset, .unset, .unset, .unset, .unset, .unset, .unset, .unset] [])) t → Steps p.tables e below G0 t := by
        intro t kt
        refine K6 t ?_
        refine XS.ifYes X0.here hx rfl (pc0 := 16) (pc' := 23) rfl (hb hby at_16) rfl ((if0 _ _).trans (teq hc8).1) (by decide) (by decide) ?_
        show Steps p.tables e below (s₁.setTop (mkF m 23 #[.val (.int p0), .val (.int p1), .val (.int p2), .val (.int p3), .val (.int s1), .unset, .unset, .unset, .unset, .unset, .unset, .unset, .unset, .unset, .unset] [])) _
        refine XS.iconst X0.here hx rfl (hb hby at_23) ?_
        show Steps p.tables e below (s₁.setTop (mkF m 24 #[.val (.int p0), .val (.int p1), .val (.int p2), .val (.int p3), .val (.int s1), .unset, .unset, .unset, .unset, .unset, .unset, .unset, .unset, .unset, .unset] [(.int (0 : Int32))])) _
        refine XS.istore X0.here hx rfl (hb hby at_24) rfl (l' := #[.val (.int p0), .val (.int p1), .val (.int p2), .val (.int p3), .val (.int s1), .val (.int (0 : Int32)), .unset, .unset, .unset, .unset, .unset, .unset, .unset, .unset, .unset]) rfl ?_
        show Steps p.tables e below (s₁.setTop (mkF m 26 #[.val (.int p0), .val (.int p1), .val (.int p2), .val (.int p3), .val (.int s1), .val (.int (0 : Int32)), .unset, .unset, .unset, .unset, .unset, .unset, .unset, .unset, .unset] [])) _
        exact kt
      rw [own_bit, if_pos hc8]
      exact K9
    ·
      have K10 : ∀ t, Steps p.tables e below (s₁.setTop (mkF m 26 #[.val (.int p0), .val (.int p1), .val (.int p2), .val (.int p3), .val (.int s1), .val (.int (1 : Int32)), .unset, .unset, .unset, .unset, .unset, .unset, .unset, .unset, .unset] [])) t → Steps p.tables e below G0 t := by
        intro t kt
        refine K6 t ?_
        refine XS.ifNo X0.here hx rfl (hb hby at_16) rfl ((if0 _ _).trans (feq hc8).1) ?_
        show Steps p.tables e below (s₁.setTop (mkF m 19 #[.val (.int p0), .val (.int p1), .val (.int p2), .val (.int p3), .val (.int s1), .unset, .unset, .unset, .unset, .unset, .unset, .unset, .unset, .unset, .unset] [])) _
        refine XS.iconst X0.here hx rfl (hb hby at_19) ?_
        show Steps p.tables e below (s₁.setTop (mkF m 20 #[.val (.int p0), .val (.int p1), .val (.int p2), .val (.int p3), .val (.int s1), .unset, .unset, .unset, .unset, .unset, .unset, .unset, .unset, .unset, .unset] [(.int (1 : Int32))])) _
        refine XS.goto X0.here hx rfl (pc0 := 20) (pc' := 24) rfl (hb hby at_20) (by decide) (by decide) ?_
        show Steps p.tables e below (s₁.setTop (mkF m 24 #[.val (.int p0), .val (.int p1), .val (.int p2), .val (.int p3), .val (.int s1), .unset, .unset, .unset, .unset, .unset, .unset, .unset, .unset, .unset, .unset] [(.int (1 : Int32))])) _
        refine XS.istore X0.here hx rfl (hb hby at_24) rfl (l' := #[.val (.int p0), .val (.int p1), .val (.int p2), .val (.int p3), .val (.int s1), .val (.int (1 : Int32)), .unset, .unset, .unset, .unset, .unset, .unset, .unset, .unset, .unset]) rfl ?_
        show Steps p.tables e below (s₁.setTop (mkF m 26 #[.val (.int p0), .val (.int p1), .val (.int p2), .val (.int p3), .val (.int s1), .val (.int (1 : Int32)), .unset, .unset, .unset, .unset, .unset, .unset, .unset, .unset, .unset] [])) _
        exact kt
      rw [own_bit, if_neg hc8]
      exact K10
  obtain ⟨s2, h_s2⟩ : ∃ z, z = (own_bit p0 (2 : Int32)) := ⟨_, rfl⟩
  rw [← h_s2] at K7
  have r_li1 := own_R3 ((p0.toUInt32 >>> ((2 : Int32) &&& 31).toUInt32).toInt32)
  have K11 : ∀ t, Steps p.tables e below (s₁.setTop (mkF m 35 #[.val (.int p0), .val (.int p1), .val (.int p2), .val (.int p3), .val (.int s1), .val (.int s2), .val (.int ((((p0.toUInt32 >>> ((2 : Int32) &&& 31).toUInt32).toInt32) &&& (3 : Int32)) % (3 : Int32))), .unset, .unset, .unset, .unset, .unset, .unset, .unset, .unset] [])) t → Steps p.tables e below G0 t := by
    intro t kt
    refine K7 t ?_
    refine XS.iloadN X0.here hx rfl (hb hby at_26) rfl ?_
    show Steps p.tables e below (s₁.setTop (mkF m 27 #[.val (.int p0), .val (.int p1), .val (.int p2), .val (.int p3), .val (.int s1), .val (.int s2), .unset, .unset, .unset, .unset, .unset, .unset, .unset, .unset, .unset] [(.int p0)])) _
    refine XS.iconst X0.here hx rfl (hb hby at_27) ?_
    show Steps p.tables e below (s₁.setTop (mkF m 28 #[.val (.int p0), .val (.int p1), .val (.int p2), .val (.int p3), .val (.int s1), .val (.int s2), .unset, .unset, .unset, .unset, .unset, .unset, .unset, .unset, .unset] [(.int (2 : Int32)), (.int p0)])) _
    refine XS.iushr X0.here hx rfl (hb hby at_28) rfl ?_
    show Steps p.tables e below (s₁.setTop (mkF m 29 #[.val (.int p0), .val (.int p1), .val (.int p2), .val (.int p3), .val (.int s1), .val (.int s2), .unset, .unset, .unset, .unset, .unset, .unset, .unset, .unset, .unset] [(.int ((p0.toUInt32 >>> ((2 : Int32) &&& 31).toUInt32).toInt32))])) _
    refine XS.iconst X0.here hx rfl (hb hby at_29) ?_
    show Steps p.tables e below (s₁.setTop (mkF m 30 #[.val (.int p0), .val (.int p1), .val (.int p2), .val (.int p3), .val (.int s1), .val (.int s2), .unset, .unset, .unset, .unset, .unset, .unset, .unset, .unset, .unset] [(.int (3 : Int32)), (.int ((p0.toUInt32 >>> ((2 : Int32) &&& 31).toUInt32).toInt32))])) _
    refine XS.iand X0.here hx rfl (hb hby at_30) rfl ?_
    show Steps p.tables e below (s₁.setTop (mkF m 31 #[.val (.int p0), .val (.int p1), .val (.int p2), .val (.int p3), .val (.int s1), .val (.int s2), .unset, .unset, .unset, .unset, .unset, .unset, .unset, .unset, .unset] [(.int (((p0.toUInt32 >>> ((2 : Int32) &&& 31).toUInt32).toInt32) &&& (3 : Int32)))])) _
    refine XS.iconst X0.here hx rfl (hb hby at_31) ?_
    show Steps p.tables e below (s₁.setTop (mkF m 32 #[.val (.int p0), .val (.int p1), .val (.int p2), .val (.int p3), .val (.int s1), .val (.int s2), .unset, .unset, .unset, .unset, .unset, .unset, .unset, .unset, .unset] [(.int (3 : Int32)), (.int (((p0.toUInt32 >>> ((2 : Int32) &&& 31).toUInt32).toInt32) &&& (3 : Int32)))])) _
    refine iremM X0 hx rfl (hb hby at_32) rfl (by decide) ?_
    show Steps p.tables e below (s₁.setTop (mkF m 33 #[.val (.int p0), .val (.int p1), .val (.int p2), .val (.int p3), .val (.int s1), .val (.int s2), .unset, .unset, .unset, .unset, .unset, .unset, .unset, .unset, .unset] [(.int ((((p0.toUInt32 >>> ((2 : Int32) &&& 31).toUInt32).toInt32) &&& (3 : Int32)) % (3 : Int32)))])) _
    refine XS.istore X0.here hx rfl (hb hby at_33) rfl (l' := #[.val (.int p0), .val (.int p1), .val (.int p2), .val (.int p3), .val (.int s1), .val (.int s2), .val (.int ((((p0.toUInt32 >>> ((2 : Int32) &&& 31).toUInt32).toInt32) &&& (3 : Int32)) % (3 : Int32))), .unset, .unset, .unset, .unset, .unset, .unset, .unset, .unset]) rfl ?_
    show Steps p.tables e below (s₁.setTop (mkF m 35 #[.val (.int p0), .val (.int p1), .val (.int p2), .val (.int p3), .val (.int s1), .val (.int s2), .val (.int ((((p0.toUInt32 >>> ((2 : Int32) &&& 31).toUInt32).toInt32) &&& (3 : Int32)) % (3 : Int32))), .unset, .unset, .unset, .unset, .unset, .unset, .unset, .unset] [])) _
    exact kt
  obtain ⟨li1, h_li1⟩ : ∃ z, z = ((((p0.toUInt32 >>> ((2 : Int32) &&& 31).toUInt32).toInt32) &&& (3 : Int32)) % (3 : Int32)) := ⟨_, rfl⟩
  rw [← h_li1] at K11
  rw [← h_li1] at r_li1
  have r_lv1 := own_R3 ((p0.toUInt32 >>> ((4 : Int32) &&& 31).toUInt32).toInt32)
  have K12 : ∀ t, Steps p.tables e below (s₁.setTop (mkF m 44 #[.val (.int p0), .val (.int p1), .val (.int p2), .val (.int p3), .val (.int s1), .val (.int s2), .val (.int li1), .val (.int ((((p0.toUInt32 >>> ((4 : Int32) &&& 31).toUInt32).toInt32) &&& (3 : Int32)) % (3 : Int32))), .unset, .unset, .unset, .unset, .unset, .unset, .unset] [])) t → Steps p.tables e below G0 t := by
    intro t kt
    refine K11 t ?_
    refine XS.iloadN X0.here hx rfl (hb hby at_35) rfl ?_
    show Steps p.tables e below (s₁.setTop (mkF m 36 #[.val (.int p0), .val (.int p1), .val (.int p2), .val (.int p3), .val (.int s1), .val (.int s2), .val (.int li1), .unset, .unset, .unset, .unset, .unset, .unset, .unset, .unset] [(.int p0)])) _
    refine XS.iconst X0.here hx rfl (hb hby at_36) ?_
    show Steps p.tables e below (s₁.setTop (mkF m 37 #[.val (.int p0), .val (.int p1), .val (.int p2), .val (.int p3), .val (.int s1), .val (.int s2), .val (.int li1), .unset, .unset, .unset, .unset, .unset, .unset, .unset, .unset] [(.int (4 : Int32)), (.int p0)])) _
    refine XS.iushr X0.here hx rfl (hb hby at_37) rfl ?_
    show Steps p.tables e below (s₁.setTop (mkF m 38 #[.val (.int p0), .val (.int p1), .val (.int p2), .val (.int p3), .val (.int s1), .val (.int s2), .val (.int li1), .unset, .unset, .unset, .unset, .unset, .unset, .unset, .unset] [(.int ((p0.toUInt32 >>> ((4 : Int32) &&& 31).toUInt32).toInt32))])) _
    refine XS.iconst X0.here hx rfl (hb hby at_38) ?_
    show Steps p.tables e below (s₁.setTop (mkF m 39 #[.val (.int p0), .val (.int p1), .val (.int p2), .val (.int p3), .val (.int s1), .val (.int s2), .val (.int li1), .unset, .unset, .unset, .unset, .unset, .unset, .unset, .unset] [(.int (3 : Int32)), (.int ((p0.toUInt32 >>> ((4 : Int32) &&& 31).toUInt32).toInt32))])) _
    refine XS.iand X0.here hx rfl (hb hby at_39) rfl ?_
    show Steps p.tables e below (s₁.setTop (mkF m 40 #[.val (.int p0), .val (.int p1), .val (.int p2), .val (.int p3), .val (.int s1), .val (.int s2), .val (.int li1), .unset, .unset, .unset, .unset, .unset, .unset, .unset, .unset] [(.int (((p0.toUInt32 >>> ((4 : Int32) &&& 31).toUInt32).toInt32) &&& (3 : Int32)))])) _
    refine XS.iconst X0.here hx rfl (hb hby at_40) ?_
    show Steps p.tables e below (s₁.setTop (mkF m 41 #[.val (.int p0), .val (.int p1), .val (.int p2), .val (.int p3), .val (.int s1), .val (.int s2), .val (.int li1), .unset, .unset, .unset, .unset, .unset, .unset, .unset, .unset] [(.int (3 : Int32)), (.int (((p0.toUInt32 >>> ((4 : Int32) &&& 31).toUInt32).toInt32) &&& (3 : Int32)))])) _
    refine iremM X0 hx rfl (hb hby at_41) rfl (by decide) ?_
    show Steps p.tables e below (s₁.setTop (mkF m 42 #[.val (.int p0), .val (.int p1), .val (.int p2), .val (.int p3), .val (.int s1), .val (.int s2), .val (.int li1), .unset, .unset, .unset, .unset, .unset, .unset, .unset, .unset] [(.int ((((p0.toUInt32 >>> ((4 : Int32) &&& 31).toUInt32).toInt32) &&& (3 : Int32)) % (3 : Int32)))])) _
    refine XS.istore X0.here hx rfl (hb hby at_42) rfl (l' := #[.val (.int p0), .val (.int p1), .val (.int p2), .val (.int p3), .val (.int s1), .val (.int s2), .val (.int li1), .val (.int ((((p0.toUInt32 >>> ((4 : Int32) &&& 31).toUInt32).toInt32) &&& (3 : Int32)) % (3 : Int32))), .unset, .unset, .unset, .unset, .unset, .unset, .unset]) rfl ?_
    show Steps p.tables e below (s₁.setTop (mkF m 44 #[.val (.int p0), .val (.int p1), .val (.int p2), .val (.int p3), .val (.int s1), .val (.int s2), .val (.int li1), .val (.int ((((p0.toUInt32 >>> ((4 : Int32) &&& 31).toUInt32).toInt32) &&& (3 : Int32)) % (3 : Int32))), .unset, .unset, .unset, .unset, .unset, .unset, .unset] [])) _
    exact kt
  obtain ⟨lv1, h_lv1⟩ : ∃ z, z = ((((p0.toUInt32 >>> ((4 : Int32) &&& 31).toUInt32).toInt32) &&& (3 : Int32)) % (3 : Int32)) := ⟨_, rfl⟩
  rw [← h_lv1] at K12
  rw [← h_lv1] at r_lv1
  have r_li2 := own_R3 ((p0.toUInt32 >>> ((6 : Int32) &&& 31).toUInt32).toInt32)
  have K13 : ∀ t, Steps p.tables e below (s₁.setTop (mkF m 54 #[.val (.int p0), .val (.int p1), .val (.int p2), .val (.int p3), .val (.int s1), .val (.int s2), .val (.int li1), .val (.int lv1), .val (.int ((((p0.toUInt32 >>> ((6 : Int32) &&& 31).toUInt32).toInt32) &&& (3 : Int32)) % (3 : Int32))), .unset, .unset, .unset, .unset, .unset, .unset] [])) t → Steps p.tables e below G0 t := by
    intro t kt
    refine K12 t ?_
    refine XS.iloadN X0.here hx rfl (hb hby at_44) rfl ?_
    show Steps p.tables e below (s₁.setTop (mkF m 45 #[.val (.int p0), .val (.int p1), .val (.int p2), .val (.int p3), .val (.int s1), .val (.int s2), .val (.int li1), .val (.int lv1), .unset, .unset, .unset, .unset, .unset, .unset, .unset] [(.int p0)])) _
    refine XS.bipush X0.here hx rfl (hb hby at_45) ?_
    show Steps p.tables e below (s₁.setTop (mkF m 47 #[.val (.int p0), .val (.int p1), .val (.int p2), .val (.int p3), .val (.int s1), .val (.int s2), .val (.int li1), .val (.int lv1), .unset, .unset, .unset, .unset, .unset, .unset, .unset] [(.int (6 : Int32)), (.int p0)])) _
    refine XS.iushr X0.here hx rfl (hb hby at_47) rfl ?_
    show Steps p.tables e below (s₁.setTop (mkF m 48 #[.val (.int p0), .val (.int p1), .val (.int p2), .val (.int p3), .val (.int s1), .val (.int s2), .val (.int li1), .val (.int lv1), .unset, .unset, .unset, .unset, .unset, .unset, .unset] [(.int ((p0.toUInt32 >>> ((6 : Int32) &&& 31).toUInt32).toInt32))])) _
    refine XS.iconst X0.here hx rfl (hb hby at_48) ?_
    show Steps p.tables e below (s₁.setTop (mkF m 49 #[.val (.int p0), .val (.int p1), .val (.int p2), .val (.int p3), .val (.int s1), .val (.int s2), .val (.int li1), .val (.int lv1), .unset, .unset, .unset, .unset, .unset, .unset, .unset] [(.int (3 : Int32)), (.int ((p0.toUInt32 >>> ((6 : Int32) &&& 31).toUInt32).toInt32))])) _
    refine XS.iand X0.here hx rfl (hb hby at_49) rfl ?_
    show Steps p.tables e below (s₁.setTop (mkF m 50 #[.val (.int p0), .val (.int p1), .val (.int p2), .val (.int p3), .val (.int s1), .val (.int s2), .val (.int li1), .val (.int lv1), .unset, .unset, .unset, .unset, .unset, .unset, .unset] [(.int (((p0.toUInt32 >>> ((6 : Int32) &&& 31).toUInt32).toInt32) &&& (3 : Int32)))])) _
    refine XS.iconst X0.here hx rfl (hb hby at_50) ?_
    show Steps p.tables e below (s₁.setTop (mkF m 51 #[.val (.int p0), .val (.int p1), .val (.int p2), .val (.int p3), .val (.int s1), .val (.int s2), .val (.int li1), .val (.int lv1), .unset, .unset, .unset, .unset, .unset, .unset, .unset] [(.int (3 : Int32)), (.int (((p0.toUInt32 >>> ((6 : Int32) &&& 31).toUInt32).toInt32) &&& (3 : Int32)))])) _
    refine iremM X0 hx rfl (hb hby at_51) rfl (by decide) ?_
    show Steps p.tables e below (s₁.setTop (mkF m 52 #[.val (.int p0), .val (.int p1), .val (.int p2), .val (.int p3), .val (.int s1), .val (.int s2), .val (.int li1), .val (.int lv1), .unset, .unset, .unset, .unset, .unset, .unset, .unset] [(.int ((((p0.toUInt32 >>> ((6 : Int32) &&& 31).toUInt32).toInt32) &&& (3 : Int32)) % (3 : Int32)))])) _
    refine XS.istore X0.here hx rfl (hb hby at_52) rfl (l' := #[.val (.int p0), .val (.int p1), .val (.int p2), .val (.int p3), .val (.int s1), .val (.int s2), .val (.int li1), .val (.int lv1), .val (.int ((((p0.toUInt32 >>> ((6 : Int32) &&& 31).toUInt32).toInt32) &&& (3 : Int32)) % (3 : Int32))), .unset, .unset, .unset, .unset, .unset, .unset]) rfl ?_
    show Steps p.tables e below (s₁.setTop (mkF m 54 #[.val (.int p0), .val (.int p1), .val (.int p2), .val (.int p3), .val (.int s1), .val (.int s2), .val (.int li1), .val (.int lv1), .val (.int ((((p0.toUInt32 >>> ((6 : Int32) &&& 31).toUInt32).toInt32) &&& (3 : Int32)) % (3 : Int32))), .unset, .unset, .unset, .unset, .unset, .unset] [])) _
    exact kt
  obtain ⟨li2, h_li2⟩ : ∃ z, z = ((((p0.toUInt32 >>> ((6 : Int32) &&& 31).toUInt32).toInt32) &&& (3 : Int32)) % (3 : Int32)) := ⟨_, rfl⟩
  rw [← h_li2] at K13
  rw [← h_li2] at r_li2
  have r_lv2 := own_R3 ((p0.toUInt32 >>> ((8 : Int32) &&& 31).toUInt32).toInt32)
  have K14 : ∀ t, Steps p.tables e below (s₁.setTop (mkF m 64 #[.val (.int p0), .val (.int p1), .val (.int p2), .val (.int p3), .val (.int s1), .val (.int s2), .val (.int li1), .val (.int lv1), .val (.int li2), .val (.int ((((p0.toUInt32 >>> ((8 : Int32) &&& 31).toUInt32).toInt32) &&& (3 : Int32)) % (3 : Int32))), .unset, .unset, .unset, .unset, .unset] [])) t → Steps p.tables e below G0 t := by
    intro t kt
    refine K13 t ?_
    refine XS.iloadN X0.here hx rfl (hb hby at_54) rfl ?_
    show Steps p.tables e below (s₁.setTop (mkF m 55 #[.val (.int p0), .val (.int p1), .val (.int p2), .val (.int p3), .val (.int s1), .val (.int s2), .val (.int li1), .val (.int lv1), .val (.int li2), .unset, .unset, .unset, .unset, .unset, .unset] [(.int p0)])) _
    refine XS.bipush X0.here hx rfl (hb hby at_55) ?_
    show Steps p.tables e below (s₁.setTop (mkF m 57 #[.val (.int p0), .val (.int p1), .val (.int p2), .val (.int p3), .val (.int s1), .val (.int s2), .val (.int li1), .val (.int lv1), .val (.int li2), .unset, .unset, .unset, .unset, .unset, .unset] [(.int (8 : Int32)), (.int p0)])) _
    refine XS.iushr X0.here hx rfl (hb hby at_57) rfl ?_
    show Steps p.tables e below (s₁.setTop (mkF m 58 #[.val (.int p0), .val (.int p1), .val (.int p2), .val (.int p3), .val (.int s1), .val (.int s2), .val (.int li1), .val (.int lv1), .val (.int li2), .unset, .unset, .unset, .unset, .unset, .unset] [(.int ((p0.toUInt32 >>> ((8 : Int32) &&& 31).toUInt32).toInt32))])) _
    refine XS.iconst X0.here hx rfl (hb hby at_58) ?_
    show Steps p.tables e below (s₁.setTop (mkF m 59 #[.val (.int p0), .val (.int p1), .val (.int p2), .val (.int p3), .val (.int s1), .val (.int s2), .val (.int li1), .val (.int lv1), .val (.int li2), .unset, .unset, .unset, .unset, .unset, .unset] [(.int (3 : Int32)), (.int ((p0.toUInt32 >>> ((8 : Int32) &&& 31).toUInt32).toInt32))])) _
    refine XS.iand X0.here hx rfl (hb hby at_59) rfl ?_
    show Steps p.tables e below (s₁.setTop (mkF m 60 #[.val (.int p0), .val (.int p1), .val (.int p2), .val (.int p3), .val (.int s1), .val (.int s2), .val (.int li1), .val (.int lv1), .val (.int li2), .unset, .unset, .unset, .unset, .unset, .unset] [(.int (((p0.toUInt32 >>> ((8 : Int32) &&& 31).toUInt32).toInt32) &&& (3 : Int32)))])) _
    refine XS.iconst X0.here hx rfl (hb hby at_60) ?_
    show Steps p.tables e below (s₁.setTop (mkF m 61 #[.val (.int p0), .val (.int p1), .val (.int p2), .val (.int p3), .val (.int s1), .val (.int s2), .val (.int li1), .val (.int lv1), .val (.int li2), .unset, .unset, .unset, .unset, .unset, .unset] [(.int (3 : Int32)), (.int (((p0.toUInt32 >>> ((8 : Int32) &&& 31).toUInt32).toInt32) &&& (3 : Int32)))])) _
    refine iremM X0 hx rfl (hb hby at_61) rfl (by decide) ?_
    show Steps p.tables e below (s₁.setTop (mkF m 62 #[.val (.int p0), .val (.int p1), .val (.int p2), .val (.int p3), .val (.int s1), .val (.int s2), .val (.int li1), .val (.int lv1), .val (.int li2), .unset, .unset, .unset, .unset, .unset, .unset] [(.int ((((p0.toUInt32 >>> ((8 : Int32) &&& 31).toUInt32).toInt32) &&& (3 : Int32)) % (3 : Int32)))])) _
    refine XS.istore X0.here hx rfl (hb hby at_62) rfl (l' := #[.val (.int p0), .val (.int p1), .val (.int p2), .val (.int p3), .val (.int s1), .val (.int s2), .val (.int li1), .val (.int lv1), .val (.int li2), .val (.int ((((p0.toUInt32 >>> ((8 : Int32) &&& 31).toUInt32).toInt32) &&& (3 : Int32)) % (3 : Int32))), .unset, .unset, .unset, .unset, .unset]) rfl ?_
    show Steps p.tables e below (s₁.setTop (mkF m 64 #[.val (.int p0), .val (.int p1), .val (.int p2), .val (.int p3), .val (.int s1), .val (.int s2), .val (.int li1), .val (.int lv1), .val (.int li2), .val (.int ((((p0.toUInt32 >>> ((8 : Int32) &&& 31).toUInt32).toInt32) &&& (3 : Int32)) % (3 : Int32))), .unset, .unset, .unset, .unset, .unset] [])) _
    exact kt
  obtain ⟨lv2, h_lv2⟩ : ∃ z, z = ((((p0.toUInt32 >>> ((8 : Int32) &&& 31).toUInt32).toInt32) &&& (3 : Int32)) % (3 : Int32)) := ⟨_, rfl⟩
  rw [← h_lv2] at K14
  rw [← h_lv2] at r_lv2
  have K15 : ∀ t, Steps p.tables e below (s₁.setTop (mkF m 67 #[.val (.int p0), .val (.int p1), .val (.int p2), .val (.int p3), .val (.int s1), .val (.int s2), .val (.int li1), .val (.int lv1), .val (.int li2), .val (.int lv2), .unset, .unset, .unset, .unset, .unset] [(.int (p3 &&& (4 : Int32)))])) t → Steps p.tables e below G0 t := by
    intro t kt
    refine K14 t ?_
    refine XS.iloadN X0.here hx rfl (hb hby at_64) rfl ?_
    show Steps p.tables e below (s₁.setTop (mkF m 65 #[.val (.int p0), .val (.int p1), .val (.int p2), .val (.int p3), .val (.int s1), .val (.int s2), .val (.int li1), .val (.int lv1), .val (.int li2), .val (.int lv2), .unset, .unset, .unset, .unset, .unset] [(.int p3)])) _
    refine XS.iconst X0.here hx rfl (hb hby at_65) ?_
    show Steps p.tables e below (s₁.setTop (mkF m 66 #[.val (.int p0), .val (.int p1), .val (.int p2), .val (.int p3), .val (.int s1), .val (.int s2), .val (.int li1), .val (.int lv1), .val (.int li2), .val (.int lv2), .unset, .unset, .unset, .unset, .unset] [(.int (4 : Int32)), (.int p3)])) _
    refine XS.iand X0.here hx rfl (hb hby at_66) rfl ?_
    show Steps p.tables e below (s₁.setTop (mkF m 67 #[.val (.int p0), .val (.int p1), .val (.int p2), .val (.int p3), .val (.int s1), .val (.int s2), .val (.int li1), .val (.int lv1), .val (.int li2), .val (.int lv2), .unset, .unset, .unset, .unset, .unset] [(.int (p3 &&& (4 : Int32)))])) _
    exact kt
  have K16 : ∀ t, Steps p.tables e below (s₁.setTop (mkF m 77 #[.val (.int p0), .val (.int p1), .val (.int p2), .val (.int p3), .val (.int s1), .val (.int s2), .val (.int li1), .val (.int lv1), .val (.int li2), .val (.int lv2), .val (.int (if (p3 &&& (4 : Int32)) = (0 : Int32) then p2 else p1)), .unset, .unset, .unset, .unset] [])) t → Steps p.tables e below G0 t := by
    by_cases hc17 : (p3 &&& (4 : Int32)) = (0 : Int32)
    ·
      have K18 : ∀ t, Steps p.tables e below (s₁.setTop (mkF m 77 #[.val (.int p0), .val (.int p1), .val (.int p2), .val (.int p3), .val (.int s1), .val (.int s2), .val (.int li1), .val (.int lv1), .val (.int li2), .val (.int lv2), .val (.int p2), .unset, .unset, .unset, .unset] [])) t → Steps p.tables e below G0 t := by
        intro t kt
        refine K15 t ?_
        refine XS.ifYes X0.here hx rfl (pc0 := 67) (pc' := 74) rfl (hb hby at_67) rfl ((if0 _ _).trans (teq hc17).1) (by decide) (by decide) ?_
        show Steps p.tables e below (s₁.setTop (mkF m 74 #[.val (.int p0), .val (.int p1), .val (.int p2), .val (.int p3), .val (.int s1), .val (.int s2), .val (.int li1), .val (.int lv1), .val (.int li2), .val (.int lv2), .unset, .unset, .unset, .unset, .unset] [])) _
        refine XS.iloadN X0.here hx rfl (hb hby at_74) rfl ?_
        show Steps p.tables e below (s₁.setTop (mkF m 75 #[.val (.int p0), .val (.int p1), .val (.int p2), .val (.int p3), .val (.int s1), .val (.int s2), .val (.int li1), .val (.int lv1), .val (.int li2), .val (.int lv2), .unset, .unset, .unset, .unset, .unset] [(.int p2)])) _
        refine XS.istore X0.here hx rfl (hb hby at_75) rfl (l' := #[.val (.int p0), .val (.int p1), .val (.int p2), .val (.int p3), .val (.int s1), .val (.int s2), .val (.int li1), .val (.int lv1), .val (.int li2), .val (.int lv2), .val (.int p2), .unset, .unset, .unset, .unset]) rfl ?_
        show Steps p.tables e below (s₁.setTop (mkF m 77 #[.val (.int p0), .val (.int p1), .val (.int p2), .val (.int p3), .val (.int s1), .val (.int s2), .val (.int li1), .val (.int lv1), .val (.int li2), .val (.int lv2), .val (.int p2), .unset, .unset, .unset, .unset] [])) _
        exact kt
      rw [if_pos hc17]
      exact K18
    ·
      have K19 : ∀ t, Steps p.tables e below (s₁.setTop (mkF m 77 #[.val (.int p0), .val (.int p1), .val (.int p2), .val (.int p3), .val (.int s1), .val (.int s2), .val (.int li1), .val (.int lv1), .val (.int li2), .val (.int lv2), .val (.int p1), .unset, .unset, .unset, .unset] [])) t → Steps p.tables e below G0 t := by
        intro t kt
        refine K15 t ?_
        refine XS.ifNo X0.here hx rfl (hb hby at_67) rfl ((if0 _ _).trans (feq hc17).1) ?_
        show Steps p.tables e below (s₁.setTop (mkF m 70 #[.val (.int p0), .val (.int p1), .val (.int p2), .val (.int p3), .val (.int s1), .val (.int s2), .val (.int li1), .val (.int lv1), .val (.int li2), .val (.int lv2), .unset, .unset, .unset, .unset, .unset] [])) _
        refine XS.iloadN X0.here hx rfl (hb hby at_70) rfl ?_
        show Steps p.tables e below (s₁.setTop (mkF m 71 #[.val (.int p0), .val (.int p1), .val (.int p2), .val (.int p3), .val (.int s1), .val (.int s2), .val (.int li1), .val (.int lv1), .val (.int li2), .val (.int lv2), .unset, .unset, .unset, .unset, .unset] [(.int p1)])) _
        refine XS.goto X0.here hx rfl (pc0 := 71) (pc' := 75) rfl (hb hby at_71) (by decide) (by decide) ?_
        show Steps p.tables e below (s₁.setTop (mkF m 75 #[.val (.int p0), .val (.int p1), .val (.int p2), .val (.int p3), .val (.int s1), .val (.int s2), .val (.int li1), .val (.int lv1), .val (.int li2), .val (.int lv2), .unset, .unset, .unset, .unset, .unset] [(.int p1)])) _
        refine XS.istore X0.here hx rfl (hb hby at_75) rfl (l' := #[.val (.int p0), .val (.int p1), .val (.int p2), .val (.int p3), .val (.int s1), .val (.int s2), .val (.int li1), .val (.int lv1), .val (.int li2), .val (.int lv2), .val (.int p1), .unset, .unset, .unset, .unset]) rfl ?_
        show Steps p.tables e below (s₁.setTop (mkF m 77 #[.val (.int p0), .val (.int p1), .val (.int p2), .val (.int p3), .val (.int s1), .val (.int s2), .val (.int li1), .val (.int lv1), .val (.int li2), .val (.int lv2), .val (.int p1), .unset, .unset, .unset, .unset] [])) _
        exact kt
      rw [if_neg hc17]
      exact K19
  obtain ⟨q2, h_q2⟩ : ∃ z, z = (if (p3 &&& (4 : Int32)) = (0 : Int32) then p2 else p1) := ⟨_, rfl⟩
  rw [← h_q2] at K16
  have hs1 : s1 = 0 ∨ s1 = 1 := h_s1 ▸ own_bit01 _ _
  have hs2 : s2 = 0 ∨ s2 = 1 := h_s2 ▸ own_bit01 _ _
  obtain ⟨T20, h20, X20, e20, E20, A20, D20, -, st20⟩ := newO X0 hx hZ hown (hw _ (List.mem_of_getElem? (i := 0) rfl)) (hw _ (List.mem_of_getElem? (i := 1) rfl)) (hw _ (List.mem_of_getElem? (i := 2) rfl)) e0 (g := (mkF m 77 #[.val (.int p0), .val (.int p1), .val (.int p2), .val (.int p3), .val (.int s1), .val (.int s2), .val (.int li1), .val (.int lv1), .val (.int li2), .val (.int lv2), .val (.int q2), .unset, .unset, .unset, .unset] [])) rfl (hb hby at_77) (by decide) (by decide)
  obtain ⟨b20, g20⟩ : ∃ z, z = h0.size := ⟨_, rfl⟩
  rw [← g20] at A20 D20 st20
  have gn20 : n0 ≤ b20 := Nat.le_trans Z0 (Nat.le_of_eq g20.symm)
  have Z20 : n0 ≤ h20.size := Nat.le_trans Z0 E20.1
  have K20 : ∀ t, Steps p.tables e below (T20.setTop (mkF m 80 #[.val (.int p0), .val (.int p1), .val (.int p2), .val (.int p3), .val (.int s1), .val (.int s2), .val (.int li1), .val (.int lv1), .val (.int li2), .val (.int lv2), .val (.int q2), .unset, .unset, .unset, .unset] [(.ref b20)])) t → Steps p.tables e below G0 t := fun t kt => K16 t (st20 _ kt)
  have F_kind_b20 := (D20 (Or.inr (hw _ (List.mem_of_getElem? (i := 62) rfl))) (ty := (.object "java/lang/String")) (by decide) : Fld Z h20 b20 "com/example/lichen/lichen/model/PolicyIdentifier" "kind" "Ljava/lang/String;" .null)
  have F_id_b20 := (D20 (Or.inr (hw _ (List.mem_of_getElem? (i := 70) rfl))) (ty := (.object "java/lang/String")) (by decide) : Fld Z h20 b20 "com/example/lichen/lichen/model/PolicyIdentifier" "id" "Ljava/lang/String;" .null)
  have F_version_b20 := (D20 (Or.inr (hw _ (List.mem_of_getElem? (i := 73) rfl))) (ty := (.object "java/lang/String")) (by decide) : Fld Z h20 b20 "com/example/lichen/lichen/model/PolicyIdentifier" "version" "Ljava/lang/String;" .null)
  have K21 : ∀ t, Steps p.tables e below (T20.setTop (mkF m 83 #[.val (.int p0), .val (.int p1), .val (.int p2), .val (.int p3), .val (.int s1), .val (.int s2), .val (.int li1), .val (.int lv1), .val (.int li2), .val (.int lv2), .val (.int q2), .unset, .unset, .unset, .unset] [(.int s1), (.ref b20), (.ref b20)])) t → Steps p.tables e below G0 t := by
    intro t kt
    refine K20 t ?_
    refine XS.dup X20.here hx rfl (hb hby at_80) rfl rfl ?_
    show Steps p.tables e below (T20.setTop (mkF m 81 #[.val (.int p0), .val (.int p1), .val (.int p2), .val (.int p3), .val (.int s1), .val (.int s2), .val (.int li1), .val (.int lv1), .val (.int li2), .val (.int lv2), .val (.int q2), .unset, .unset, .unset, .unset] [(.ref b20), (.ref b20)])) _
    refine XS.iload X20.here hx rfl (hb hby at_81) rfl ?_
    show Steps p.tables e below (T20.setTop (mkF m 83 #[.val (.int p0), .val (.int p1), .val (.int p2), .val (.int p3), .val (.int s1), .val (.int s2), .val (.int li1), .val (.int lv1), .val (.int li2), .val (.int lv2), .val (.int q2), .unset, .unset, .unset, .unset] [(.int s1), (.ref b20), (.ref b20)])) _
    exact kt
  have f22 := (HO.ext E20)
  obtain ⟨v23, _, ⟨T23, L23, k23, n23⟩, -, X23, ⟨Lc23, hQ23, l23, y23, z23⟩, st23⟩ := Jvm.LawKit.callS X20 hx (y := (⟨"com/example/lichen/lichen/model/PolicyIdentifierEqualsPinLaw", "kind", "(Z)Ljava/lang/String;"⟩ : MethodName)) hown (mvT hZ (hw _ (List.mem_of_getElem? (i := 3) rfl))) (mvT hZ (hw _ (List.mem_of_getElem? (i := 4) rfl))) (mvT hZ (hw _ (List.mem_of_getElem? (i := 5) rfl))) (mvT hZ (hw _ (List.mem_of_getElem? (i := 6) rfl))) (by decide) (backOf (W := 2) (rm1 l Z aa hw [] (s1) G1 h20 n0 Z20 O2 P5 f22) hZ (hw _ (List.mem_of_getElem? (i := 6) rfl)) (hw _ (List.mem_of_getElem? (i := 5) rfl)) (by decide) (by decide)) (g := (mkF m 83 #[.val (.int p0), .val (.int p1), .val (.int p2), .val (.int p3), .val (.int s1), .val (.int s2), .val (.int li1), .val (.int lv1), .val (.int li2), .val (.int lv2), .val (.int q2), .unset, .unset, .unset, .unset] [(.int s1), (.ref b20), (.ref b20)])) rfl (by rw [hml]; rfl) (argsL := [(.int s1)]) (rest := [(.ref b20), (.ref b20)]) (lenOf pd_PZQLjava_lang_String_ rfl) rfl (by show 2 * 0 + _ ≤ _; exact Nat.le_of_eq rfl) (hb hby at_83) (fun _ _ => ⟨rfl, e20, (by decide : 1 + 3 ≤ _), (by decide : 3 + 22 ≤ _)⟩)
  dsimp only [Pt.U, Pt.locs, Pt.cells, Pt.slots] at X23 l23 y23 z23 st23 hQ23
  subst l23 y23 z23
  obtain ⟨r23, rfl, N23q, KV23, SO23⟩ := hQ23
  have N23 := Fr.app N0 N23q
  have K23 : ∀ t, Steps p.tables e below (T23.setTop (mkF m 86 #[.val (.int p0), .val (.int p1), .val (.int p2), .val (.int p3), .val (.int s1), .val (.int s2), .val (.int li1), .val (.int lv1), .val (.int li2), .val (.int lv2), .val (.int q2), .unset, .unset, .unset, .unset] [(.ref r23), (.ref b20), (.ref b20)])) t → Steps p.tables e below G0 t := fun t kt => K21 t (st23 _ kt)
  have Z23 : n0 ≤ T23.heap.size := Nat.le_trans Z20 KV23.1
  have EE23 := SO23.1
  have f24 := (A20.keep KV23)
  have K25 : ∀ t, Steps p.tables e below (T23.setTop (mkF m 89 #[.val (.int p0), .val (.int p1), .val (.int p2), .val (.int p3), .val (.int s1), .val (.int s2), .val (.int li1), .val (.int lv1), .val (.int li2), .val (.int lv2), .val (.int q2), .unset, .unset, .unset, .unset] [(.int li1), (.int p1), (.ref r23), (.ref b20), (.ref b20)])) t → Steps p.tables e below G0 t := by
    intro t kt
    refine K23 t ?_
    refine XS.iloadN X23.here hx rfl (hb hby at_86) rfl ?_
    show Steps p.tables e below (T23.setTop (mkF m 87 #[.val (.int p0), .val (.int p1), .val (.int p2), .val (.int p3), .val (.int s1), .val (.int s2), .val (.int li1), .val (.int lv1), .val (.int li2), .val (.int lv2), .val (.int q2), .unset, .unset, .unset, .unset] [(.int p1), (.ref r23), (.ref b20), (.ref b20)])) _
    refine XS.iload X23.here hx rfl (hb hby at_87) rfl ?_
    show Steps p.tables e below (T23.setTop (mkF m 89 #[.val (.int p0), .val (.int p1), .val (.int p2), .val (.int p3), .val (.int s1), .val (.int s2), .val (.int li1), .val (.int lv1), .val (.int li2), .val (.int lv2), .val (.int q2), .unset, .unset, .unset, .unset] [(.int li1), (.int p1), (.ref r23), (.ref b20), (.ref b20)])) _
    exact kt
  have f26 := (f22.keep KV23 (fun x hx => nomatch hx))
  have KQ27_0 := Keep.refl h0 []
  have sz27_20 := Nat.le_trans KQ27_0.1 (Nat.le_of_eq g20.symm)
  have KQ27_1 := KQ27_0.ext E20
  have KQ27_2 := KQ27_1.trans KV23 (fun x hx => nomatch hx)
  have CH28 := CH0.trans (CHr.keep KQ27_2 sf0 CH0.1)
  have f29 := (Nat.le_trans (Nat.le_trans hk0 E20.1) KV23.1)
  obtain ⟨v30, _, ⟨T30, L30, k30, n30⟩, -, Xq30, S230, g230, ⟨Lc30, hQ30, l30, y30, z30, CR30⟩, st30⟩ := callSS X23 hx (y := (⟨"com/example/lichen/lichen/model/PolicyIdentifierEqualsPinLaw", "str", "(II)Ljava/lang/String;"⟩ : MethodName)) hown (mvT hZ (hw _ (List.mem_of_getElem? (i := 37) rfl))) (mvT hZ (hw _ (List.mem_of_getElem? (i := 38) rfl))) (mvT hZ (hw _ (List.mem_of_getElem? (i := 5) rfl))) (mvT hZ (hw _ (List.mem_of_getElem? (i := 39) rfl))) (by decide) (backOfSH (W := 3) (rm8 l Z aa hw hEL [] (p1) (li1) G1 T23.heap n0 Z23 O2 P5 f26) hZ (hw _ (List.mem_of_getElem? (i := 39) rfl)) (hw _ (List.mem_of_getElem? (i := 5) rfl)) (by decide) (by decide) hEL CH28.1) (g := (mkF m 89 #[.val (.int p0), .val (.int p1), .val (.int p2), .val (.int p3), .val (.int s1), .val (.int s2), .val (.int li1), .val (.int lv1), .val (.int li2), .val (.int lv2), .val (.int q2), .unset, .unset, .unset, .unset] [(.int li1), (.int p1), (.ref r23), (.ref b20), (.ref b20)])) rfl (by rw [hml]; rfl) (argsL := [(.int p1), (.int li1)]) (rest := [(.ref r23), (.ref b20), (.ref b20)]) (lenOf pd_PIIQLjava_lang_String_ rfl) rfl (by show 2 * 0 + _ ≤ _; exact Nat.le_of_eq rfl) (hb hby at_89) (fun _ _ => ⟨rfl, (rfl : T23.heap = _), (by decide : 4 + 6 ≤ _), (by decide : 25 + 12 ≤ _)⟩)
  dsimp only [Pt.U, Pt.locs, Pt.cells, Pt.slots] at Xq30 S230 g230 l30 y30 z30 st30 hQ30 CR30
  subst l30 y30 z30
  obtain ⟨X30, hS30, hZ30, hown30⟩ := rebS hS0 (show _ ≤ T23.heap.size by rw [(rfl : T23.heap = _)]; exact f29) Xq30 S230 g230 hZ hown
  have hk30 : T30.heap.size ≤ T30.heap.size := Nat.le_refl _
  have CH30 := CH28.trans CR30
  obtain ⟨r30, rfl, N30q, KV30, SO30⟩ := hQ30
  have N30 := Fr.app N23 N30q
  have K30 : ∀ t, Steps p.tables e below (T30.setTop (mkF m 92 #[.val (.int p0), .val (.int p1), .val (.int p2), .val (.int p3), .val (.int s1), .val (.int s2), .val (.int li1), .val (.int lv1), .val (.int li2), .val (.int lv2), .val (.int q2), .unset, .unset, .unset, .unset] [(.ref r30), (.ref r23), (.ref b20), (.ref b20)])) t → Steps p.tables e below G0 t := fun t kt => K25 t (st30.trans kt)
  have Z30 : n0 ≤ T30.heap.size := Nat.le_trans Z23 KV30.1
  have EE30 := SO30.1
  have f31 := (f24.keep KV30)
  have K32 : ∀ t, Steps p.tables e below (T30.setTop (mkF m 98 #[.val (.int p0), .val (.int p1), .val (.int p2), .val (.int p3), .val (.int s1), .val (.int s2), .val (.int li1), .val (.int lv1), .val (.int li2), .val (.int lv2), .val (.int q2), .unset, .unset, .unset, .unset] [(.int lv1), (.int ((p1.toUInt32 >>> ((16 : Int32) &&& 31).toUInt32).toInt32)), (.ref r30), (.ref r23), (.ref b20), (.ref b20)])) t → Steps p.tables e below G0 t := by
    intro t kt
    refine K30 t ?_
    refine XS.iloadN X30.here hx rfl (hb hby at_92) rfl ?_
    show Steps p.tables e below (T30.setTop (mkF m 93 #[.val (.int p0), .val (.int p1), .val (.int p2), .val (.int p3), .val (.int s1), .val (.int s2), .val (.int li1), .val (.int lv1), .val (.int li2), .val (.int lv2), .val (.int q2), .unset, .unset, .unset, .unset] [(.int p1), (.ref r30), (.ref r23), (.ref b20), (.ref b20)])) _
    refine XS.bipush X30.here hx rfl (hb hby at_93) ?_
    show Steps p.tables e below (T30.setTop (mkF m 95 #[.val (.int p0), .val (.int p1), .val (.int p2), .val (.int p3), .val (.int s1), .val (.int s2), .val (.int li1), .val (.int lv1), .val (.int li2), .val (.int lv2), .val (.int q2), .unset, .unset, .unset, .unset] [(.int (16 : Int32)), (.int p1), (.ref r30), (.ref r23), (.ref b20), (.ref b20)])) _
    refine XS.iushr X30.here hx rfl (hb hby at_95) rfl ?_
    show Steps p.tables e below (T30.setTop (mkF m 96 #[.val (.int p0), .val (.int p1), .val (.int p2), .val (.int p3), .val (.int s1), .val (.int s2), .val (.int li1), .val (.int lv1), .val (.int li2), .val (.int lv2), .val (.int q2), .unset, .unset, .unset, .unset] [(.int ((p1.toUInt32 >>> ((16 : Int32) &&& 31).toUInt32).toInt32)), (.ref r30), (.ref r23), (.ref b20), (.ref b20)])) _
    refine XS.iload X30.here hx rfl (hb hby at_96) rfl ?_
    show Steps p.tables e below (T30.setTop (mkF m 98 #[.val (.int p0), .val (.int p1), .val (.int p2), .val (.int p3), .val (.int s1), .val (.int s2), .val (.int li1), .val (.int lv1), .val (.int li2), .val (.int lv2), .val (.int q2), .unset, .unset, .unset, .unset] [(.int lv1), (.int ((p1.toUInt32 >>> ((16 : Int32) &&& 31).toUInt32).toInt32)), (.ref r30), (.ref r23), (.ref b20), (.ref b20)])) _
    exact kt
  have f33 := (f26.keep KV30 (fun x hx => nomatch hx))
  obtain ⟨v34, _, ⟨T34, L34, k34, n34⟩, -, Xq34, S234, g234, ⟨Lc34, hQ34, l34, y34, z34, CR34⟩, st34⟩ := callSS X30 hx (y := (⟨"com/example/lichen/lichen/model/PolicyIdentifierEqualsPinLaw", "str", "(II)Ljava/lang/String;"⟩ : MethodName)) hown30 (mvT hZ30 (hw _ (List.mem_of_getElem? (i := 37) rfl))) (mvT hZ30 (hw _ (List.mem_of_getElem? (i := 38) rfl))) (mvT hZ30 (hw _ (List.mem_of_getElem? (i := 5) rfl))) (mvT hZ30 (hw _ (List.mem_of_getElem? (i := 39) rfl))) (by decide) (backOfSH (W := 4) (rm8 l Z aa hw hEL [] (((p1.toUInt32 >>> ((16 : Int32) &&& 31).toUInt32).toInt32)) (lv1) G1 T30.heap n0 Z30 O2 P5 f33) hZ30 (hw _ (List.mem_of_getElem? (i := 39) rfl)) (hw _ (List.mem_of_getElem? (i := 5) rfl)) (by decide) (by decide) hEL CH30.1) (g := (mkF m 98 #[.val (.int p0), .val (.int p1), .val (.int p2), .val (.int p3), .val (.int s1), .val (.int s2), .val (.int li1), .val (.int lv1), .val (.int li2), .val (.int lv2), .val (.int q2), .unset, .unset, .unset, .unset] [(.int lv1), (.int ((p1.toUInt32 >>> ((16 : Int32) &&& 31).toUInt32).toInt32)), (.ref r30), (.ref r23), (.ref b20), (.ref b20)])) rfl (by rw [hml]; rfl) (argsL := [(.int ((p1.toUInt32 >>> ((16 : Int32) &&& 31).toUInt32).toInt32)), (.int lv1)]) (rest := [(.ref r30), (.ref r23), (.ref b20), (.ref b20)]) (lenOf pd_PIIQLjava_lang_String_ rfl) rfl (by show 2 * 0 + _ ≤ _; exact Nat.le_of_eq rfl) (hb hby at_98) (fun _ _ => ⟨rfl, (rfl : T30.heap = _), (by decide : 10 + 6 ≤ _), (by decide : 37 + 12 ≤ _)⟩)
  dsimp only [Pt.U, Pt.locs, Pt.cells, Pt.slots] at Xq34 S234 g234 l34 y34 z34 st34 hQ34 CR34
  subst l34 y34 z34
  obtain ⟨X34, hS34, hZ34, hown34⟩ := rebS hS30 (show _ ≤ T30.heap.size by rw [(rfl : T30.heap = _)]; exact hk30) Xq34 S234 g234 hZ30 hown30
  have hk34 : T34.heap.size ≤ T34.heap.size := Nat.le_refl _
  have CH34 := CH30.trans CR34
  obtain ⟨r34, rfl, N34q, KV34, SO34⟩ := hQ34
  have N34 := Fr.app N30 N34q
  have K34 : ∀ t, Steps p.tables e below (T34.setTop (mkF m 101 #[.val (.int p0), .val (.int p1), .val (.int p2), .val (.int p3), .val (.int s1), .val (.int s2), .val (.int li1), .val (.int lv1), .val (.int li2), .val (.int lv2), .val (.int q2), .unset, .unset, .unset, .unset] [(.ref r34), (.ref r30), (.ref r23), (.ref b20), (.ref b20)])) t → Steps p.tables e below G0 t := fun t kt => K32 t (st34.trans kt)
  have Z34 : n0 ≤ T34.heap.size := Nat.le_trans Z30 KV34.1
  have EE34 := SO34.1
  have f35 := (f31.keep KV34)
  have KQ36_0 := Keep.refl T23.heap []
  have KQ36_1 := KQ36_0.trans KV30 (fun x hx => nomatch hx)
  have KQ36_2 := KQ36_1.trans KV34 (fun x hx => nomatch hx)
  have s37 := own_Str.keep0 SO23 KQ36_2
  have KQ38_0 := Keep.refl T30.heap []
  have KQ38_1 := KQ38_0.trans KV34 (fun x hx => nomatch hx)
  have s39 := own_Str.keep0 SO30 KQ38_1
  have f40 := (f33.keep KV34 (fun x hx => nomatch hx))
  have f41 := (((F_kind_b20.keep KV23 (fun q => nomatch q)).keep KV30 (fun q => nomatch q)).keep KV34 (fun q => nomatch q))
  have f42 := (((F_id_b20.keep KV23 (fun q => nomatch q)).keep KV30 (fun q => nomatch q)).keep KV34 (fun q => nomatch q))
  have f43 := (((F_version_b20.keep KV23 (fun q => nomatch q)).keep KV30 (fun q => nomatch q)).keep KV34 (fun q => nomatch q))
  have f44 := (EE30.keep KV34)
  obtain ⟨v45, _, ⟨T45, L45, k45, n45⟩, -, Xq45, S245, g245, ⟨Lc45, hQ45, l45, y45, z45, CR45⟩, st45⟩ := X34.specialBackS hx (y := (⟨"com/example/lichen/lichen/model/PolicyIdentifier", "<init>", "(Ljava/lang/String;Ljava/lang/String;Ljava/lang/String;)V"⟩ : MethodName)) rfl hown34 (mvT hZ34 (hw _ (List.mem_of_getElem? (i := 43) rfl))) (mvT hZ34 (hw _ (List.mem_of_getElem? (i := 44) rfl))) (mvT hZ34 (hw _ (List.mem_of_getElem? (i := 45) rfl))) (by decide) (backOfSH (W := 1) (rm9 l Z aa hw hEL [] (b20) (r23) (r30) (r34) _ _ _ (own_kind s1) G1 T34.heap n0 Z34 O2 P5 f40 gn20 f35 f41 f42 f43 s37 (own_kindp s1) f44 EE34) hZ34 (hw _ (List.mem_of_getElem? (i := 45) rfl)) (hw _ (List.mem_of_getElem? (i := 2) rfl)) (by decide) (by decide) hEL CH34.1) (g := (mkF m 101 #[.val (.int p0), .val (.int p1), .val (.int p2), .val (.int p3), .val (.int s1), .val (.int s2), .val (.int li1), .val (.int lv1), .val (.int li2), .val (.int lv2), .val (.int q2), .unset, .unset, .unset, .unset] [(.ref r34), (.ref r30), (.ref r23), (.ref b20), (.ref b20)])) rfl (by rw [hml]; rfl) (Steps.refl _) (a := b20) (argsL := [(.ref r23), (.ref r30), (.ref r34)]) (rest := [(.ref b20)]) (lenOf pd_PLjava_lang_String_Ljava_lang_String_Ljava_lang_String_QV rfl) rfl (by show 2 * 0 + _ ≤ _; exact Nat.le_of_eq rfl) (hb hby at_101) (fun _ _ => ⟨rfl, (rfl : T34.heap = _), (by decide : 16 + 8 ≤ _), (by decide : 49 + 112 ≤ _)⟩)
  dsimp only [Pt.U, Pt.locs, Pt.cells, Pt.slots] at Xq45 S245 g245 l45 y45 z45 st45 hQ45 CR45
  subst l45 y45 z45
  obtain ⟨X45, hS45, hZ45, hown45⟩ := rebS hS34 (show _ ≤ T34.heap.size by rw [(rfl : T34.heap = _)]; exact hk34) Xq45 S245 g245 hZ34 hown34
  have hk45 : T45.heap.size ≤ T45.heap.size := Nat.le_refl _
  have CH45 := CH34.trans CR45
  obtain ⟨rfl, N45q, KV45, EX45, FK045, FK145, FK245⟩ := hQ45
  have N45 := Fr.app N34 N45q
  have K45 : ∀ t, Steps p.tables e below (T45.setTop (mkF m 104 #[.val (.int p0), .val (.int p1), .val (.int p2), .val (.int p3), .val (.int s1), .val (.int s2), .val (.int li1), .val (.int lv1), .val (.int li2), .val (.int lv2), .val (.int q2), .unset, .unset, .unset, .unset] [(.ref b20)])) t → Steps p.tables e below G0 t := fun t kt => K34 t (st45.trans kt)
  have Z45 : n0 ≤ T45.heap.size := Nat.le_trans Z34 KV45.1
  have KQ46_0 := Keep.refl T34.heap [b20]
  have KQ46_1 := KQ46_0.trans KV45 (fun x hx => by simp only [List.mem_cons, List.not_mem_nil, or_false] at hx; rcases hx with rfl <;> first | exact (Or.inl (List.mem_of_getElem? (i := 0) rfl)))
  have s47 := own_Str.keepE s37 KQ46_1 f35 (by decide) (hw _ (List.mem_of_getElem? (i := 1) rfl))
  have KQ48_0 := Keep.refl T34.heap [b20]
  have KQ48_1 := KQ48_0.trans KV45 (fun x hx => by simp only [List.mem_cons, List.not_mem_nil, or_false] at hx; rcases hx with rfl <;> first | exact (Or.inl (List.mem_of_getElem? (i := 0) rfl)))
  have s49 := own_Str.keepE s39 KQ48_1 f35 (by decide) (hw _ (List.mem_of_getElem? (i := 1) rfl))
  have KQ50_0 := Keep.refl T34.heap [b20]
  have KQ50_1 := KQ50_0.trans KV45 (fun x hx => by simp only [List.mem_cons, List.not_mem_nil, or_false] at hx; rcases hx with rfl <;> first | exact (Or.inl (List.mem_of_getElem? (i := 0) rfl)))
  have s51 := own_Str.keepE SO34 KQ50_1 f35 (by decide) (hw _ (List.mem_of_getElem? (i := 1) rfl))
  have K52 : ∀ t, Steps p.tables e below (T45.setTop (mkF m 114 #[.val (.int p0), .val (.int p1), .val (.int p2), .val (.int p3), .val (.int s1), .val (.int s2), .val (.int li1), .val (.int lv1), .val (.int li2), .val (.int lv2), .val (.int q2), .val (.ref b20), .val (.int (p3 &&& (3 : Int32))), .unset, .unset] [(.int (1 : Int32)), (.int (p3 &&& (3 : Int32)))])) t → Steps p.tables e below G0 t := by
    intro t kt
    refine K45 t ?_
    refine XS.astore X45.here hx rfl (hb hby at_104) rfl rfl (l' := #[.val (.int p0), .val (.int p1), .val (.int p2), .val (.int p3), .val (.int s1), .val (.int s2), .val (.int li1), .val (.int lv1), .val (.int li2), .val (.int lv2), .val (.int q2), .val (.ref b20), .unset, .unset, .unset]) rfl ?_
    show Steps p.tables e below (T45.setTop (mkF m 106 #[.val (.int p0), .val (.int p1), .val (.int p2), .val (.int p3), .val (.int s1), .val (.int s2), .val (.int li1), .val (.int lv1), .val (.int li2), .val (.int lv2), .val (.int q2), .val (.ref b20), .unset, .unset, .unset] [])) _
    refine XS.iloadN X45.here hx rfl (hb hby at_106) rfl ?_
    show Steps p.tables e below (T45.setTop (mkF m 107 #[.val (.int p0), .val (.int p1), .val (.int p2), .val (.int p3), .val (.int s1), .val (.int s2), .val (.int li1), .val (.int lv1), .val (.int li2), .val (.int lv2), .val (.int q2), .val (.ref b20), .unset, .unset, .unset] [(.int p3)])) _
    refine XS.iconst X45.here hx rfl (hb hby at_107) ?_
    show Steps p.tables e below (T45.setTop (mkF m 108 #[.val (.int p0), .val (.int p1), .val (.int p2), .val (.int p3), .val (.int s1), .val (.int s2), .val (.int li1), .val (.int lv1), .val (.int li2), .val (.int lv2), .val (.int q2), .val (.ref b20), .unset, .unset, .unset] [(.int (3 : Int32)), (.int p3)])) _
    refine XS.iand X45.here hx rfl (hb hby at_108) rfl ?_
    show Steps p.tables e below (T45.setTop (mkF m 109 #[.val (.int p0), .val (.int p1), .val (.int p2), .val (.int p3), .val (.int s1), .val (.int s2), .val (.int li1), .val (.int lv1), .val (.int li2), .val (.int lv2), .val (.int q2), .val (.ref b20), .unset, .unset, .unset] [(.int (p3 &&& (3 : Int32)))])) _
    refine XS.istore X45.here hx rfl (hb hby at_109) rfl (l' := #[.val (.int p0), .val (.int p1), .val (.int p2), .val (.int p3), .val (.int s1), .val (.int s2), .val (.int li1), .val (.int lv1), .val (.int li2), .val (.int lv2), .val (.int q2), .val (.ref b20), .val (.int (p3 &&& (3 : Int32))), .unset, .unset]) rfl ?_
    show Steps p.tables e below (T45.setTop (mkF m 111 #[.val (.int p0), .val (.int p1), .val (.int p2), .val (.int p3), .val (.int s1), .val (.int s2), .val (.int li1), .val (.int lv1), .val (.int li2), .val (.int lv2), .val (.int q2), .val (.ref b20), .val (.int (p3 &&& (3 : Int32))), .unset, .unset] [])) _
    refine XS.iload X45.here hx rfl (hb hby at_111) rfl ?_
    show Steps p.tables e below (T45.setTop (mkF m 113 #[.val (.int p0), .val (.int p1), .val (.int p2), .val (.int p3), .val (.int s1), .val (.int s2), .val (.int li1), .val (.int lv1), .val (.int li2), .val (.int lv2), .val (.int q2), .val (.ref b20), .val (.int (p3 &&& (3 : Int32))), .unset, .unset] [(.int (p3 &&& (3 : Int32)))])) _
    refine XS.iconst X45.here hx rfl (hb hby at_113) ?_
    show Steps p.tables e below (T45.setTop (mkF m 114 #[.val (.int p0), .val (.int p1), .val (.int p2), .val (.int p3), .val (.int s1), .val (.int s2), .val (.int li1), .val (.int lv1), .val (.int li2), .val (.int lv2), .val (.int q2), .val (.ref b20), .val (.int (p3 &&& (3 : Int32))), .unset, .unset] [(.int (1 : Int32)), (.int (p3 &&& (3 : Int32)))])) _
    exact kt
  by_cases hc53 : (p3 &&& (3 : Int32)) = (1 : Int32)
  ·
    have K54 : ∀ t, Steps p.tables e below (T45.setTop (mkF m 120 #[.val (.int p0), .val (.int p1), .val (.int p2), .val (.int p3), .val (.int s1), .val (.int s2), .val (.int li1), .val (.int lv1), .val (.int li2), .val (.int lv2), .val (.int q2), .val (.ref b20), .val (.int (p3 &&& (3 : Int32))), .unset, .unset] [.null, (.ref b20)])) t → Steps p.tables e below G0 t := by
      intro t kt
      refine K52 t ?_
      refine XS.icmpNo X45.here hx rfl (hb hby at_114) rfl (teq hc53).2 ?_
      show Steps p.tables e below (T45.setTop (mkF m 117 #[.val (.int p0), .val (.int p1), .val (.int p2), .val (.int p3), .val (.int s1), .val (.int s2), .val (.int li1), .val (.int lv1), .val (.int li2), .val (.int lv2), .val (.int q2), .val (.ref b20), .val (.int (p3 &&& (3 : Int32))), .unset, .unset] [])) _
      refine XS.aload X45.here hx rfl (hb hby at_117) rfl rfl ?_
      show Steps p.tables e below (T45.setTop (mkF m 119 #[.val (.int p0), .val (.int p1), .val (.int p2), .val (.int p3), .val (.int s1), .val (.int s2), .val (.int li1), .val (.int lv1), .val (.int li2), .val (.int lv2), .val (.int q2), .val (.ref b20), .val (.int (p3 &&& (3 : Int32))), .unset, .unset] [(.ref b20)])) _
      refine XS.aconstNull X45.here hx rfl (hb hby at_119) ?_
      show Steps p.tables e below (T45.setTop (mkF m 120 #[.val (.int p0), .val (.int p1), .val (.int p2), .val (.int p3), .val (.int s1), .val (.int s2), .val (.int li1), .val (.int lv1), .val (.int li2), .val (.int lv2), .val (.int q2), .val (.ref b20), .val (.int (p3 &&& (3 : Int32))), .unset, .unset] [.null, (.ref b20)])) _
      exact kt
    obtain ⟨cq55, kq55, q55a, q55b, q55c⟩ := isOf hZ45 (rfl : T45.heap = _) EX45
    obtain ⟨v56, _, ⟨T56, L56, k56, n56⟩, -, X56, ⟨Lc56, hQ56, l56, y56, z56⟩, st56⟩ := X45.virtualBack hx (y := (⟨"com/example/lichen/lichen/model/PolicyIdentifier", "equals", "(Ljava/lang/Object;)Z"⟩ : MethodName)) (z := (⟨"com/example/lichen/lichen/model/PolicyIdentifier", "equals", "(Ljava/lang/Object;)Z"⟩ : MethodName)) hown45 (mvT hZ45 (hw _ (List.mem_of_getElem? (i := 74) rfl))) (mvT hZ45 (hw _ (List.mem_of_getElem? (i := 75) rfl))) (notFace_of_selects (args := #[]) (mvT hZ45 (hw _ (List.mem_of_getElem? (i := 77) rfl)))) (mvT hZ45 (hw _ (List.mem_of_getElem? (i := 77) rfl))) (mvT hZ45 (hw _ (List.mem_of_getElem? (i := 76) rfl))) (by decide) (backOf (W := 0) (rm14n l Z aa hw [] (b20)  T45.heap n0 Z45 ) hZ45 (hw _ (List.mem_of_getElem? (i := 78) rfl)) (hw _ (List.mem_of_getElem? (i := 2) rfl)) (by decide) (by decide)) q55a q55c (g := (mkF m 120 #[.val (.int p0), .val (.int p1), .val (.int p2), .val (.int p3), .val (.int s1), .val (.int s2), .val (.int li1), .val (.int lv1), .val (.int li2), .val (.int lv2), .val (.int q2), .val (.ref b20), .val (.int (p3 &&& (3 : Int32))), .unset, .unset] [.null, (.ref b20)])) rfl (by rw [hml]; rfl) (Steps.refl _) (argsL := [.null]) (rest := []) (lenOf pd_PLjava_lang_Object_QZ rfl) rfl (by show 2 * 0 + _ ≤ _; exact Nat.le_of_eq rfl) (hb hby at_120) (fun _ _ => ⟨rfl, (rfl : T45.heap = _), (by decide : 24 + 0 ≤ _), (by decide : 161 + 0 ≤ _)⟩)
    dsimp only [Pt.U, Pt.locs, Pt.cells, Pt.slots] at X56 l56 y56 z56 st56 hQ56
    subst l56 y56 z56
    obtain ⟨rfl, N56q, e56⟩ := hQ56
    have N56 := Fr.app N45 N56q
    have K56 : ∀ t, Steps p.tables e below (T56.setTop (mkF m 123 #[.val (.int p0), .val (.int p1), .val (.int p2), .val (.int p3), .val (.int s1), .val (.int s2), .val (.int li1), .val (.int lv1), .val (.int li2), .val (.int lv2), .val (.int q2), .val (.ref b20), .val (.int (p3 &&& (3 : Int32))), .unset, .unset] [(.int (0 : Int32))])) t → Steps p.tables e below G0 t := fun t kt => K54 t (st56.trans kt)
    have K57 : ∀ t, Steps p.tables e below (T56.setTop (mkF m 131 #[.val (.int p0), .val (.int p1), .val (.int p2), .val (.int p3), .val (.int s1), .val (.int s2), .val (.int li1), .val (.int lv1), .val (.int li2), .val (.int lv2), .val (.int q2), .val (.ref b20), .val (.int (p3 &&& (3 : Int32))), .unset, .unset] [(.int (1 : Int32))])) t → Steps p.tables e below G0 t := by
      intro t kt
      refine K56 t ?_
      refine XS.ifNo X56.here hx rfl (hb hby at_123) rfl ((if0 _ _).trans (teq rfl).2) ?_
      show Steps p.tables e below (T56.setTop (mkF m 126 #[.val (.int p0), .val (.int p1), .val (.int p2), .val (.int p3), .val (.int s1), .val (.int s2), .val (.int li1), .val (.int lv1), .val (.int li2), .val (.int lv2), .val (.int q2), .val (.ref b20), .val (.int (p3 &&& (3 : Int32))), .unset, .unset] [])) _
      refine XS.iconst X56.here hx rfl (hb hby at_126) ?_
      show Steps p.tables e below (T56.setTop (mkF m 127 #[.val (.int p0), .val (.int p1), .val (.int p2), .val (.int p3), .val (.int s1), .val (.int s2), .val (.int li1), .val (.int lv1), .val (.int li2), .val (.int lv2), .val (.int q2), .val (.ref b20), .val (.int (p3 &&& (3 : Int32))), .unset, .unset] [(.int (1 : Int32))])) _
      refine XS.goto X56.here hx rfl (pc0 := 127) (pc' := 131) rfl (hb hby at_127) (by decide) (by decide) ?_
      show Steps p.tables e below (T56.setTop (mkF m 131 #[.val (.int p0), .val (.int p1), .val (.int p2), .val (.int p3), .val (.int s1), .val (.int s2), .val (.int li1), .val (.int lv1), .val (.int li2), .val (.int lv2), .val (.int q2), .val (.ref b20), .val (.int (p3 &&& (3 : Int32))), .unset, .unset] [(.int (1 : Int32))])) _
      exact kt
    obtain ⟨fs, hr, hrun, hended, hREW⟩ := X56.leaveW hS45 (by rw [e56]; exact hk45) (v := some (.int (1 : Int32))) (fun h => by rw [Bd.returns] at h; cases h)
    have CHE := CH45.trans (CHv.at X56 hZ45 hEL CH45.1)
    refine ⟨_, _, ?_, hrun, hended, _, _, rfl, ?_, ?_, hREW.1, hREW.2.1, hREW.2.2.1, hREW.2.2.2.mono (by decide) (by decide)⟩
    · rw [← hG0]
      refine K57 _ ?_
      exact retN X56 hx (t := .boolean) Bd.returns (by simp) (hb hby at_131) hr
    · show Q0 Z p0 p1 p2 p3 G1 h0 n0 _ T56.heap _
      rw [e56]
      exact ⟨rfl, N56⟩
    · rw [hh]
      show CHr Z consts_1 s.vm h0 T56.vm T56.heap
      rw [e56]
      exact CHE
  ·
    have K58 : ∀ t, Steps p.tables e below (T45.setTop (mkF m 135 #[.val (.int p0), .val (.int p1), .val (.int p2), .val (.int p3), .val (.int s1), .val (.int s2), .val (.int li1), .val (.int lv1), .val (.int li2), .val (.int lv2), .val (.int q2), .val (.ref b20), .val (.int (p3 &&& (3 : Int32))), .unset, .unset] [(.int (2 : Int32)), (.int (p3 &&& (3 : Int32)))])) t → Steps p.tables e below G0 t := by
      intro t kt
      refine K52 t ?_
      refine XS.icmpYes X45.here hx rfl (pc0 := 114) (pc' := 132) rfl (hb hby at_114) rfl (feq hc53).2 (by decide) (by decide) ?_
      show Steps p.tables e below (T45.setTop (mkF m 132 #[.val (.int p0), .val (.int p1), .val (.int p2), .val (.int p3), .val (.int s1), .val (.int s2), .val (.int li1), .val (.int lv1), .val (.int li2), .val (.int lv2), .val (.int q2), .val (.ref b20), .val (.int (p3 &&& (3 : Int32))), .unset, .unset] [])) _
      refine XS.iload X45.here hx rfl (hb hby at_132) rfl ?_
      show Steps p.tables e below (T45.setTop (mkF m 134 #[.val (.int p0), .val (.int p1), .val (.int p2), .val (.int p3), .val (.int s1), .val (.int s2), .val (.int li1), .val (.int lv1), .val (.int li2), .val (.int lv2), .val (.int q2), .val (.ref b20), .val (.int (p3 &&& (3 : Int32))), .unset, .unset] [(.int (p3 &&& (3 : Int32)))])) _
      refine XS.iconst X45.here hx rfl (hb hby at_134) ?_
      show Steps p.tables e below (T45.setTop (mkF m 135 #[.val (.int p0), .val (.int p1), .val (.int p2), .val (.int p3), .val (.int s1), .val (.int s2), .val (.int li1), .val (.int lv1), .val (.int li2), .val (.int lv2), .val (.int q2), .val (.ref b20), .val (.int (p3 &&& (3 : Int32))), .unset, .unset] [(.int (2 : Int32)), (.int (p3 &&& (3 : Int32)))])) _
      exact kt
    by_cases hc59 : (p3 &&& (3 : Int32)) = (2 : Int32)
    ·
      have K60 : ∀ t, Steps p.tables e below (T45.setTop (mkF m 143 #[.val (.int p0), .val (.int p1), .val (.int p2), .val (.int p3), .val (.int s1), .val (.int s2), .val (.int li1), .val (.int lv1), .val (.int li2), .val (.int lv2), .val (.int q2), .val (.ref b20), .val (.int (p3 &&& (3 : Int32))), .unset, .unset] [(.int li1), (.int p1), (.ref b20)])) t → Steps p.tables e below G0 t := by
        intro t kt
        refine K58 t ?_
        refine XS.icmpNo X45.here hx rfl (hb hby at_135) rfl (teq hc59).2 ?_
        show Steps p.tables e below (T45.setTop (mkF m 138 #[.val (.int p0), .val (.int p1), .val (.int p2), .val (.int p3), .val (.int s1), .val (.int s2), .val (.int li1), .val (.int lv1), .val (.int li2), .val (.int lv2), .val (.int q2), .val (.ref b20), .val (.int (p3 &&& (3 : Int32))), .unset, .unset] [])) _
        refine XS.aload X45.here hx rfl (hb hby at_138) rfl rfl ?_
        show Steps p.tables e below (T45.setTop (mkF m 140 #[.val (.int p0), .val (.int p1), .val (.int p2), .val (.int p3), .val (.int s1), .val (.int s2), .val (.int li1), .val (.int lv1), .val (.int li2), .val (.int lv2), .val (.int q2), .val (.ref b20), .val (.int (p3 &&& (3 : Int32))), .unset, .unset] [(.ref b20)])) _
        refine XS.iloadN X45.here hx rfl (hb hby at_140) rfl ?_
        show Steps p.tables e below (T45.setTop (mkF m 141 #[.val (.int p0), .val (.int p1), .val (.int p2), .val (.int p3), .val (.int s1), .val (.int s2), .val (.int li1), .val (.int lv1), .val (.int li2), .val (.int lv2), .val (.int q2), .val (.ref b20), .val (.int (p3 &&& (3 : Int32))), .unset, .unset] [(.int p1), (.ref b20)])) _
        refine XS.iload X45.here hx rfl (hb hby at_141) rfl ?_
        show Steps p.tables e below (T45.setTop (mkF m 143 #[.val (.int p0), .val (.int p1), .val (.int p2), .val (.int p3), .val (.int s1), .val (.int s2), .val (.int li1), .val (.int lv1), .val (.int li2), .val (.int lv2), .val (.int q2), .val (.ref b20), .val (.int (p3 &&& (3 : Int32))), .unset, .unset] [(.int li1), (.int p1), (.ref b20)])) _
        exact kt
      have f61 := (f40.keep KV45 (fun x hx => by cases List.mem_singleton.mp hx; exact gn20))
      obtain ⟨v62, _, ⟨T62, L62, k62, n62⟩, -, Xq62, S262, g262, ⟨Lc62, hQ62, l62, y62, z62, CR62⟩, st62⟩ := callSS X45 hx (y := (⟨"com/example/lichen/lichen/model/PolicyIdentifierEqualsPinLaw", "str", "(II)Ljava/lang/String;"⟩ : MethodName)) hown45 (mvT hZ45 (hw _ (List.mem_of_getElem? (i := 37) rfl))) (mvT hZ45 (hw _ (List.mem_of_getElem? (i := 38) rfl))) (mvT hZ45 (hw _ (List.mem_of_getElem? (i := 5) rfl))) (mvT hZ45 (hw _ (List.mem_of_getElem? (i := 39) rfl))) (by decide) (backOfSH (W := 1) (rm8 l Z aa hw hEL [] (p1) (li1) G1 T45.heap n0 Z45 O2 P5 f61) hZ45 (hw _ (List.mem_of_getElem? (i := 39) rfl)) (hw _ (List.mem_of_getElem? (i := 5) rfl)) (by decide) (by decide) hEL CH45.1) (g := (mkF m 143 #[.val (.int p0), .val (.int p1), .val (.int p2), .val (.int p3), .val (.int s1), .val (.int s2), .val (.int li1), .val (.int lv1), .val (.int li2), .val (.int lv2), .val (.int q2), .val (.ref b20), .val (.int (p3 &&& (3 : Int32))), .unset, .unset] [(.int li1), (.int p1), (.ref b20)])) rfl (by rw [hml]; rfl) (argsL := [(.int p1), (.int li1)]) (rest := [(.ref b20)]) (lenOf pd_PIIQLjava_lang_String_ rfl) rfl (by show 2 * 0 + _ ≤ _; exact Nat.le_of_eq rfl) (hb hby at_143) (fun _ _ => ⟨rfl, (rfl : T45.heap = _), (by decide : 24 + 6 ≤ _), (by decide : 161 + 12 ≤ _)⟩)
      dsimp only [Pt.U, Pt.locs, Pt.cells, Pt.slots] at Xq62 S262 g262 l62 y62 z62 st62 hQ62 CR62
      subst l62 y62 z62
      obtain ⟨X62, hS62, hZ62, hown62⟩ := rebS hS45 (show _ ≤ T45.heap.size by rw [(rfl : T45.heap = _)]; exact hk45) Xq62 S262 g262 hZ45 hown45
      have hk62 : T62.heap.size ≤ T62.heap.size := Nat.le_refl _
      have CH62 := CH45.trans CR62
      obtain ⟨r62, rfl, N62q, KV62, SO62⟩ := hQ62
      have N62 := Fr.app N45 N62q
      have K62 : ∀ t, Steps p.tables e below (T62.setTop (mkF m 146 #[.val (.int p0), .val (.int p1), .val (.int p2), .val (.int p3), .val (.int s1), .val (.int s2), .val (.int li1), .val (.int lv1), .val (.int li2), .val (.int lv2), .val (.int q2), .val (.ref b20), .val (.int (p3 &&& (3 : Int32))), .unset, .unset] [(.ref r62), (.ref b20)])) t → Steps p.tables e below G0 t := fun t kt => K60 t (st62.trans kt)
      have Z62 : n0 ≤ T62.heap.size := Nat.le_trans Z45 KV62.1
      have f63 := (EX45.keep KV62)
      obtain ⟨cq64, kq64, q64a, q64b, q64c⟩ := isOf hZ62 (rfl : T62.heap = _) f63
      obtain ⟨v65, _, ⟨T65, L65, k65, n65⟩, -, X65, ⟨Lc65, hQ65, l65, y65, z65⟩, st65⟩ := X62.virtualBack hx (y := (⟨"com/example/lichen/lichen/model/PolicyIdentifier", "equals", "(Ljava/lang/Object;)Z"⟩ : MethodName)) (z := (⟨"com/example/lichen/lichen/model/PolicyIdentifier", "equals", "(Ljava/lang/Object;)Z"⟩ : MethodName)) hown62 (mvT hZ62 (hw _ (List.mem_of_getElem? (i := 74) rfl))) (mvT hZ62 (hw _ (List.mem_of_getElem? (i := 75) rfl))) (notFace_of_selects (args := #[]) (mvT hZ62 (hw _ (List.mem_of_getElem? (i := 77) rfl)))) (mvT hZ62 (hw _ (List.mem_of_getElem? (i := 77) rfl))) (mvT hZ62 (hw _ (List.mem_of_getElem? (i := 76) rfl))) (by decide) (backOf (W := 0) (rm14s l Z aa hw [] (b20) (r62)  T62.heap n0 Z62 SO62.1) hZ62 (hw _ (List.mem_of_getElem? (i := 78) rfl)) (hw _ (List.mem_of_getElem? (i := 2) rfl)) (by decide) (by decide)) q64a q64c (g := (mkF m 146 #[.val (.int p0), .val (.int p1), .val (.int p2), .val (.int p3), .val (.int s1), .val (.int s2), .val (.int li1), .val (.int lv1), .val (.int li2), .val (.int lv2), .val (.int q2), .val (.ref b20), .val (.int (p3 &&& (3 : Int32))), .unset, .unset] [(.ref r62), (.ref b20)])) rfl (by rw [hml]; rfl) (Steps.refl _) (argsL := [(.ref r62)]) (rest := []) (lenOf pd_PLjava_lang_Object_QZ rfl) rfl (by show 2 * 0 + _ ≤ _; exact Nat.le_of_eq rfl) (hb hby at_146) (fun _ _ => ⟨rfl, (rfl : T62.heap = _), (by decide : 30 + 0 ≤ _), (by decide : 173 + 0 ≤ _)⟩)
      dsimp only [Pt.U, Pt.locs, Pt.cells, Pt.slots] at X65 l65 y65 z65 st65 hQ65
      subst l65 y65 z65
      obtain ⟨rfl, N65q, e65⟩ := hQ65
      have N65 := Fr.app N62 N65q
      have K65 : ∀ t, Steps p.tables e below (T65.setTop (mkF m 149 #[.val (.int p0), .val (.int p1), .val (.int p2), .val (.int p3), .val (.int s1), .val (.int s2), .val (.int li1), .val (.int lv1), .val (.int li2), .val (.int lv2), .val (.int q2), .val (.ref b20), .val (.int (p3 &&& (3 : Int32))), .unset, .unset] [(.int (0 : Int32))])) t → Steps p.tables e below G0 t := fun t kt => K62 t (st65.trans kt)
      have K66 : ∀ t, Steps p.tables e below (T65.setTop (mkF m 157 #[.val (.int p0), .val (.int p1), .val (.int p2), .val (.int p3), .val (.int s1), .val (.int s2), .val (.int li1), .val (.int lv1), .val (.int li2), .val (.int lv2), .val (.int q2), .val (.ref b20), .val (.int (p3 &&& (3 : Int32))), .unset, .unset] [(.int (1 : Int32))])) t → Steps p.tables e below G0 t := by
        intro t kt
        refine K65 t ?_
        refine XS.ifNo X65.here hx rfl (hb hby at_149) rfl ((if0 _ _).trans (teq rfl).2) ?_
        show Steps p.tables e below (T65.setTop (mkF m 152 #[.val (.int p0), .val (.int p1), .val (.int p2), .val (.int p3), .val (.int s1), .val (.int s2), .val (.int li1), .val (.int lv1), .val (.int li2), .val (.int lv2), .val (.int q2), .val (.ref b20), .val (.int (p3 &&& (3 : Int32))), .unset, .unset] [])) _
        refine XS.iconst X65.here hx rfl (hb hby at_152) ?_
        show Steps p.tables e below (T65.setTop (mkF m 153 #[.val (.int p0), .val (.int p1), .val (.int p2), .val (.int p3), .val (.int s1), .val (.int s2), .val (.int li1), .val (.int lv1), .val (.int li2), .val (.int lv2), .val (.int q2), .val (.ref b20), .val (.int (p3 &&& (3 : Int32))), .unset, .unset] [(.int (1 : Int32))])) _
        refine XS.goto X65.here hx rfl (pc0 := 153) (pc' := 157) rfl (hb hby at_153) (by decide) (by decide) ?_
        show Steps p.tables e below (T65.setTop (mkF m 157 #[.val (.int p0), .val (.int p1), .val (.int p2), .val (.int p3), .val (.int s1), .val (.int s2), .val (.int li1), .val (.int lv1), .val (.int li2), .val (.int lv2), .val (.int q2), .val (.ref b20), .val (.int (p3 &&& (3 : Int32))), .unset, .unset] [(.int (1 : Int32))])) _
        exact kt
      obtain ⟨fs, hr, hrun, hended, hREW⟩ := X65.leaveW hS62 (by rw [e65]; exact hk62) (v := some (.int (1 : Int32))) (fun h => by rw [Bd.returns] at h; cases h)
      have CHE := CH62.trans (CHv.at X65 hZ62 hEL CH62.1)
      refine ⟨_, _, ?_, hrun, hended, _, _, rfl, ?_, ?_, hREW.1, hREW.2.1, hREW.2.2.1, hREW.2.2.2.mono (by decide) (by decide)⟩
      · rw [← hG0]
        refine K66 _ ?_
        exact retN X65 hx (t := .boolean) Bd.returns (by simp) (hb hby at_157) hr
      · show Q0 Z p0 p1 p2 p3 G1 h0 n0 _ T65.heap _
        rw [e65]
        exact ⟨rfl, N65⟩
      · rw [hh]
        show CHr Z consts_1 s.vm h0 T65.vm T65.heap
        rw [e65]
        exact CHE
    ·
      have K67 : ∀ t, Steps p.tables e below (T45.setTop (mkF m 161 #[.val (.int p0), .val (.int p1), .val (.int p2), .val (.int p3), .val (.int s1), .val (.int s2), .val (.int li1), .val (.int lv1), .val (.int li2), .val (.int lv2), .val (.int q2), .val (.ref b20), .val (.int (p3 &&& (3 : Int32))), .unset, .unset] [(.int (3 : Int32)), (.int (p3 &&& (3 : Int32)))])) t → Steps p.tables e below G0 t := by
        intro t kt
        refine K58 t ?_
        refine XS.icmpYes X45.here hx rfl (pc0 := 135) (pc' := 158) rfl (hb hby at_135) rfl (feq hc59).2 (by decide) (by decide) ?_
        show Steps p.tables e below (T45.setTop (mkF m 158 #[.val (.int p0), .val (.int p1), .val (.int p2), .val (.int p3), .val (.int s1), .val (.int s2), .val (.int li1), .val (.int lv1), .val (.int li2), .val (.int lv2), .val (.int q2), .val (.ref b20), .val (.int (p3 &&& (3 : Int32))), .unset, .unset] [])) _
        refine XS.iload X45.here hx rfl (hb hby at_158) rfl ?_
        show Steps p.tables e below (T45.setTop (mkF m 160 #[.val (.int p0), .val (.int p1), .val (.int p2), .val (.int p3), .val (.int s1), .val (.int s2), .val (.int li1), .val (.int lv1), .val (.int li2), .val (.int lv2), .val (.int q2), .val (.ref b20), .val (.int (p3 &&& (3 : Int32))), .unset, .unset] [(.int (p3 &&& (3 : Int32)))])) _
        refine XS.iconst X45.here hx rfl (hb hby at_160) ?_
        show Steps p.tables e below (T45.setTop (mkF m 161 #[.val (.int p0), .val (.int p1), .val (.int p2), .val (.int p3), .val (.int s1), .val (.int s2), .val (.int li1), .val (.int lv1), .val (.int li2), .val (.int lv2), .val (.int q2), .val (.ref b20), .val (.int (p3 &&& (3 : Int32))), .unset, .unset] [(.int (3 : Int32)), (.int (p3 &&& (3 : Int32)))])) _
        exact kt
      by_cases hc68 : (p3 &&& (3 : Int32)) = (3 : Int32)
      ·
        have K69 : ∀ t, Steps p.tables e below (T45.setTop (mkF m 168 #[.val (.int p0), .val (.int p1), .val (.int p2), .val (.int p3), .val (.int s1), .val (.int s2), .val (.int li1), .val (.int lv1), .val (.int li2), .val (.int lv2), .val (.int q2), .val (.ref b20), .val (.int (p3 &&& (3 : Int32))), .unset, .unset] [(.ref b20), (.ref b20)])) t → Steps p.tables e below G0 t := by
          intro t kt
          refine K67 t ?_
          refine XS.icmpNo X45.here hx rfl (hb hby at_161) rfl (teq hc68).2 ?_
          show Steps p.tables e below (T45.setTop (mkF m 164 #[.val (.int p0), .val (.int p1), .val (.int p2), .val (.int p3), .val (.int s1), .val (.int s2), .val (.int li1), .val (.int lv1), .val (.int li2), .val (.int lv2), .val (.int q2), .val (.ref b20), .val (.int (p3 &&& (3 : Int32))), .unset, .unset] [])) _
          refine XS.aload X45.here hx rfl (hb hby at_164) rfl rfl ?_
          show Steps p.tables e below (T45.setTop (mkF m 166 #[.val (.int p0), .val (.int p1), .val (.int p2), .val (.int p3), .val (.int s1), .val (.int s2), .val (.int li1), .val (.int lv1), .val (.int li2), .val (.int lv2), .val (.int q2), .val (.ref b20), .val (.int (p3 &&& (3 : Int32))), .unset, .unset] [(.ref b20)])) _
          refine XS.aload X45.here hx rfl (hb hby at_166) rfl rfl ?_
          show Steps p.tables e below (T45.setTop (mkF m 168 #[.val (.int p0), .val (.int p1), .val (.int p2), .val (.int p3), .val (.int s1), .val (.int s2), .val (.int li1), .val (.int lv1), .val (.int li2), .val (.int lv2), .val (.int q2), .val (.ref b20), .val (.int (p3 &&& (3 : Int32))), .unset, .unset] [(.ref b20), (.ref b20)])) _
          exact kt
        have f70 := (f40.keep KV45 (fun x hx => by cases List.mem_singleton.mp hx; exact gn20))
        obtain ⟨cq71, kq71, q71a, q71b, q71c⟩ := isOf hZ45 (rfl : T45.heap = _) EX45
        obtain ⟨v72, _, ⟨T72, L72, k72, n72⟩, -, X72, ⟨Lc72, hQ72, l72, y72, z72⟩, st72⟩ := X45.virtualBack hx (y := (⟨"com/example/lichen/lichen/model/PolicyIdentifier", "equals", "(Ljava/lang/Object;)Z"⟩ : MethodName)) (z := (⟨"com/example/lichen/lichen/model/PolicyIdentifier", "equals", "(Ljava/lang/Object;)Z"⟩ : MethodName)) hown45 (mvT hZ45 (hw _ (List.mem_of_getElem? (i := 74) rfl))) (mvT hZ45 (hw _ (List.mem_of_getElem? (i := 75) rfl))) (notFace_of_selects (args := #[]) (mvT hZ45 (hw _ (List.mem_of_getElem? (i := 77) rfl)))) (mvT hZ45 (hw _ (List.mem_of_getElem? (i := 77) rfl))) (mvT hZ45 (hw _ (List.mem_of_getElem? (i := 76) rfl))) (by decide) (backOf (W := 0) (rm14 l Z aa hw [] (b20) (b20) r23 r30 r34 r23 r30 r34 (own_kind s1) (own_str p1 li1) (own_str ((p1.toUInt32 >>> ((16 : Int32) &&& 31).toUInt32).toInt32) lv1) (own_kind s1) (own_str p1 li1) (own_str ((p1.toUInt32 >>> ((16 : Int32) &&& 31).toUInt32).toInt32) lv1) G1 T45.heap n0 Z45 O2 P5 f70 FK045 FK145 FK245 s47 s49 s51 FK045 FK145 FK245 s47 s49 s51 EX45) hZ45 (hw _ (List.mem_of_getElem? (i := 78) rfl)) (hw _ (List.mem_of_getElem? (i := 2) rfl)) (by decide) (by decide)) q71a q71c (g := (mkF m 168 #[.val (.int p0), .val (.int p1), .val (.int p2), .val (.int p3), .val (.int s1), .val (.int s2), .val (.int li1), .val (.int lv1), .val (.int li2), .val (.int lv2), .val (.int q2), .val (.ref b20), .val (.int (p3 &&& (3 : Int32))), .unset, .unset] [(.ref b20), (.ref b20)])) rfl (by rw [hml]; rfl) (Steps.refl _) (argsL := [(.ref b20)]) (rest := []) (lenOf pd_PLjava_lang_Object_QZ rfl) rfl (by show 2 * 0 + _ ≤ _; exact Nat.le_of_eq rfl) (hb hby at_168) (fun _ _ => ⟨rfl, (rfl : T45.heap = _), (by decide : 24 + 0 ≤ _), (by decide : 161 + 0 ≤ _)⟩)
        dsimp only [Pt.U, Pt.locs, Pt.cells, Pt.slots] at X72 l72 y72 z72 st72 hQ72
        subst l72 y72 z72
        obtain ⟨rfl, N72q, e72⟩ := hQ72
        have N72 := Fr.app N45 N72q
        have K72 : ∀ t, Steps p.tables e below (T72.setTop (mkF m 171 #[.val (.int p0), .val (.int p1), .val (.int p2), .val (.int p3), .val (.int s1), .val (.int s2), .val (.int li1), .val (.int lv1), .val (.int li2), .val (.int lv2), .val (.int q2), .val (.ref b20), .val (.int (p3 &&& (3 : Int32))), .unset, .unset] [(.int (own_e (own_kind s1) (own_kind s1) (own_str p1 li1) (own_str p1 li1) (own_str ((p1.toUInt32 >>> ((16 : Int32) &&& 31).toUInt32).toInt32) lv1) (own_str ((p1.toUInt32 >>> ((16 : Int32) &&& 31).toUInt32).toInt32) lv1)))])) t → Steps p.tables e below G0 t := fun t kt => K69 t (st72.trans kt)
        obtain ⟨fs, hr, hrun, hended, hREW⟩ := X72.leaveW hS45 (by rw [e72]; exact hk45) (v := some (.int (nar .boolean (own_e (own_kind s1) (own_kind s1) (own_str p1 li1) (own_str p1 li1) (own_str ((p1.toUInt32 >>> ((16 : Int32) &&& 31).toUInt32).toInt32) lv1) (own_str ((p1.toUInt32 >>> ((16 : Int32) &&& 31).toUInt32).toInt32) lv1))))) (fun h => by rw [Bd.returns] at h; cases h)
        have CHE := CH45.trans (CHv.at X72 hZ45 hEL CH45.1)
        refine ⟨_, _, ?_, hrun, hended, _, _, rfl, ?_, ?_, hREW.1, hREW.2.1, hREW.2.2.1, hREW.2.2.2.mono (by decide) (by decide)⟩
        · rw [← hG0]
          refine K72 _ ?_
          exact retN X72 hx (t := .boolean) Bd.returns (by simp) (hb hby at_171) hr
        · show Q0 Z p0 p1 p2 p3 G1 h0 n0 _ T72.heap _
          rw [e72]
          exact ⟨by rw [own_es]; rfl, N72⟩
        · rw [hh]
          show CHr Z consts_1 s.vm h0 T72.vm T72.heap
          rw [e72]
          exact CHE
      ·
        have K73 : ∀ t, Steps p.tables e below (T45.setTop (mkF m 172 #[.val (.int p0), .val (.int p1), .val (.int p2), .val (.int p3), .val (.int s1), .val (.int s2), .val (.int li1), .val (.int lv1), .val (.int li2), .val (.int lv2), .val (.int q2), .val (.ref b20), .val (.int (p3 &&& (3 : Int32))), .unset, .unset] [])) t → Steps p.tables e below G0 t := by
          intro t kt
          refine K67 t ?_
          refine XS.icmpYes X45.here hx rfl (pc0 := 161) (pc' := 172) rfl (hb hby at_161) rfl (feq hc68).2 (by decide) (by decide) ?_
          show Steps p.tables e below (T45.setTop (mkF m 172 #[.val (.int p0), .val (.int p1), .val (.int p2), .val (.int p3), .val (.int s1), .val (.int s2), .val (.int li1), .val (.int lv1), .val (.int li2), .val (.int lv2), .val (.int q2), .val (.ref b20), .val (.int (p3 &&& (3 : Int32))), .unset, .unset] [])) _
          exact kt
        have f74 := (((EE23.keep KV30).keep KV34).keep KV45)
        have f75 := (f44.keep KV45)
        have f76 := (EE34.keep KV45)
        obtain ⟨T77, h77, X77, e77, E77, A77, D77, -, st77⟩ := newO X45 hx hZ45 hown45 (hw _ (List.mem_of_getElem? (i := 0) rfl)) (hw _ (List.mem_of_getElem? (i := 1) rfl)) (hw _ (List.mem_of_getElem? (i := 2) rfl)) (rfl : T45.heap = _) (g := (mkF m 172 #[.val (.int p0), .val (.int p1), .val (.int p2), .val (.int p3), .val (.int s1), .val (.int s2), .val (.int li1), .val (.int lv1), .val (.int li2), .val (.int lv2), .val (.int q2), .val (.ref b20), .val (.int (p3 &&& (3 : Int32))), .unset, .unset] [])) rfl (hb hby at_172) (by decide) (by decide)
        obtain ⟨b77, g77⟩ : ∃ z, z = T45.heap.size := ⟨_, rfl⟩
        rw [← g77] at A77 D77 st77
        have gn77 : n0 ≤ b77 := Nat.le_trans Z45 (Nat.le_of_eq g77.symm)
        have Z77 : n0 ≤ h77.size := Nat.le_trans Z45 E77.1
        have K77 : ∀ t, Steps p.tables e below (T77.setTop (mkF m 175 #[.val (.int p0), .val (.int p1), .val (.int p2), .val (.int p3), .val (.int s1), .val (.int s2), .val (.int li1), .val (.int lv1), .val (.int li2), .val (.int lv2), .val (.int q2), .val (.ref b20), .val (.int (p3 &&& (3 : Int32))), .unset, .unset] [(.ref b77)])) t → Steps p.tables e below G0 t := fun t kt => K73 t (st77 _ kt)
        have ne_b20_b77 : b20 ≠ b77 := Nat.ne_of_lt (Nat.lt_of_lt_of_le (EX45).lt (Nat.le_of_eq g77.symm))
        have ne_r23_b77 : r23 ≠ b77 := Nat.ne_of_lt (Nat.lt_of_lt_of_le (f74).lt (Nat.le_of_eq g77.symm))
        have ne_r30_b77 : r30 ≠ b77 := Nat.ne_of_lt (Nat.lt_of_lt_of_le (f75).lt (Nat.le_of_eq g77.symm))
        have ne_r34_b77 : r34 ≠ b77 := Nat.ne_of_lt (Nat.lt_of_lt_of_le (f76).lt (Nat.le_of_eq g77.symm))
        have F_kind_b77 := (D77 (Or.inr (hw _ (List.mem_of_getElem? (i := 62) rfl))) (ty := (.object "java/lang/String")) (by decide) : Fld Z h77 b77 "com/example/lichen/lichen/model/PolicyIdentifier" "kind" "Ljava/lang/String;" .null)
        have F_id_b77 := (D77 (Or.inr (hw _ (List.mem_of_getElem? (i := 70) rfl))) (ty := (.object "java/lang/String")) (by decide) : Fld Z h77 b77 "com/example/lichen/lichen/model/PolicyIdentifier" "id" "Ljava/lang/String;" .null)
        have F_version_b77 := (D77 (Or.inr (hw _ (List.mem_of_getElem? (i := 73) rfl))) (ty := (.object "java/lang/String")) (by decide) : Fld Z h77 b77 "com/example/lichen/lichen/model/PolicyIdentifier" "version" "Ljava/lang/String;" .null)
        have K78 : ∀ t, Steps p.tables e below (T77.setTop (mkF m 178 #[.val (.int p0), .val (.int p1), .val (.int p2), .val (.int p3), .val (.int s1), .val (.int s2), .val (.int li1), .val (.int lv1), .val (.int li2), .val (.int lv2), .val (.int q2), .val (.ref b20), .val (.int (p3 &&& (3 : Int32))), .unset, .unset] [(.int s2), (.ref b77), (.ref b77)])) t → Steps p.tables e below G0 t := by
          intro t kt
          refine K77 t ?_
          refine XS.dup X77.here hx rfl (hb hby at_175) rfl rfl ?_
          show Steps p.tables e below (T77.setTop (mkF m 176 #[.val (.int p0), .val (.int p1), .val (.int p2), .val (.int p3), .val (.int s1), .val (.int s2), .val (.int li1), .val (.int lv1), .val (.int li2), .val (.int lv2), .val (.int q2), .val (.ref b20), .val (.int (p3 &&& (3 : Int32))), .unset, .unset] [(.ref b77), (.ref b77)])) _
          refine XS.iload X77.here hx rfl (hb hby at_176) rfl ?_
          show Steps p.tables e below (T77.setTop (mkF m 178 #[.val (.int p0), .val (.int p1), .val (.int p2), .val (.int p3), .val (.int s1), .val (.int s2), .val (.int li1), .val (.int lv1), .val (.int li2), .val (.int lv2), .val (.int q2), .val (.ref b20), .val (.int (p3 &&& (3 : Int32))), .unset, .unset] [(.int s2), (.ref b77), (.ref b77)])) _
          exact kt
        have f79 := ((f40.keep KV45 (fun x hx => by cases List.mem_singleton.mp hx; exact gn20)).ext E77)
        obtain ⟨v80, _, ⟨T80, L80, k80, n80⟩, -, X80, ⟨Lc80, hQ80, l80, y80, z80⟩, st80⟩ := Jvm.LawKit.callS X77 hx (y := (⟨"com/example/lichen/lichen/model/PolicyIdentifierEqualsPinLaw", "kind", "(Z)Ljava/lang/String;"⟩ : MethodName)) hown45 (mvT hZ45 (hw _ (List.mem_of_getElem? (i := 3) rfl))) (mvT hZ45 (hw _ (List.mem_of_getElem? (i := 4) rfl))) (mvT hZ45 (hw _ (List.mem_of_getElem? (i := 5) rfl))) (mvT hZ45 (hw _ (List.mem_of_getElem? (i := 6) rfl))) (by decide) (backOf (W := 2) (rm1 l Z aa hw [] (s2) G1 h77 n0 Z77 O2 P5 f79) hZ45 (hw _ (List.mem_of_getElem? (i := 6) rfl)) (hw _ (List.mem_of_getElem? (i := 5) rfl)) (by decide) (by decide)) (g := (mkF m 178 #[.val (.int p0), .val (.int p1), .val (.int p2), .val (.int p3), .val (.int s1), .val (.int s2), .val (.int li1), .val (.int lv1), .val (.int li2), .val (.int lv2), .val (.int q2), .val (.ref b20), .val (.int (p3 &&& (3 : Int32))), .unset, .unset] [(.int s2), (.ref b77), (.ref b77)])) rfl (by rw [hml]; rfl) (argsL := [(.int s2)]) (rest := [(.ref b77), (.ref b77)]) (lenOf pd_PZQLjava_lang_String_ rfl) rfl (by show 2 * 0 + _ ≤ _; exact Nat.le_of_eq rfl) (hb hby at_178) (fun _ _ => ⟨rfl, e77, (by decide : 25 + 3 ≤ _), (by decide : 164 + 22 ≤ _)⟩)
        dsimp only [Pt.U, Pt.locs, Pt.cells, Pt.slots] at X80 l80 y80 z80 st80 hQ80
        subst l80 y80 z80
        obtain ⟨r80, rfl, N80q, KV80, SO80⟩ := hQ80
        have N80 := Fr.app N45 N80q
        have K80 : ∀ t, Steps p.tables e below (T80.setTop (mkF m 181 #[.val (.int p0), .val (.int p1), .val (.int p2), .val (.int p3), .val (.int s1), .val (.int s2), .val (.int li1), .val (.int lv1), .val (.int li2), .val (.int lv2), .val (.int q2), .val (.ref b20), .val (.int (p3 &&& (3 : Int32))), .unset, .unset] [(.ref r80), (.ref b77), (.ref b77)])) t → Steps p.tables e below G0 t := fun t kt => K78 t (st80 _ kt)
        have Z80 : n0 ≤ T80.heap.size := Nat.le_trans Z77 KV80.1
        have EE80 := SO80.1
        have f81 := (A77.keep KV80)
        have K82 : ∀ t, Steps p.tables e below (T80.setTop (mkF m 185 #[.val (.int p0), .val (.int p1), .val (.int p2), .val (.int p3), .val (.int s1), .val (.int s2), .val (.int li1), .val (.int lv1), .val (.int li2), .val (.int lv2), .val (.int q2), .val (.ref b20), .val (.int (p3 &&& (3 : Int32))), .unset, .unset] [(.int li2), (.int q2), (.ref r80), (.ref b77), (.ref b77)])) t → Steps p.tables e below G0 t := by
          intro t kt
          refine K80 t ?_
          refine XS.iload X80.here hx rfl (hb hby at_181) rfl ?_
          show Steps p.tables e below (T80.setTop (mkF m 183 #[.val (.int p0), .val (.int p1), .val (.int p2), .val (.int p3), .val (.int s1), .val (.int s2), .val (.int li1), .val (.int lv1), .val (.int li2), .val (.int lv2), .val (.int q2), .val (.ref b20), .val (.int (p3 &&& (3 : Int32))), .unset, .unset] [(.int q2), (.ref r80), (.ref b77), (.ref b77)])) _
          refine XS.iload X80.here hx rfl (hb hby at_183) rfl ?_
          show Steps p.tables e below (T80.setTop (mkF m 185 #[.val (.int p0), .val (.int p1), .val (.int p2), .val (.int p3), .val (.int s1), .val (.int s2), .val (.int li1), .val (.int lv1), .val (.int li2), .val (.int lv2), .val (.int q2), .val (.ref b20), .val (.int (p3 &&& (3 : Int32))), .unset, .unset] [(.int li2), (.int q2), (.ref r80), (.ref b77), (.ref b77)])) _
          exact kt
        have f83 := (f79.keep KV80 (fun x hx => nomatch hx))
        have KQ84_0 := Keep.refl T45.heap []
        have sz84_77 := Nat.le_trans KQ84_0.1 (Nat.le_of_eq g77.symm)
        have KQ84_1 := KQ84_0.ext E77
        have KQ84_2 := KQ84_1.trans KV80 (fun x hx => nomatch hx)
        have CH85 := CH45.trans (CHr.keep KQ84_2 sf0 CH45.1)
        have f86 := (Nat.le_trans (Nat.le_trans hk45 E77.1) KV80.1)
        obtain ⟨v87, _, ⟨T87, L87, k87, n87⟩, -, Xq87, S287, g287, ⟨Lc87, hQ87, l87, y87, z87, CR87⟩, st87⟩ := callSS X80 hx (y := (⟨"com/example/lichen/lichen/model/PolicyIdentifierEqualsPinLaw", "str", "(II)Ljava/lang/String;"⟩ : MethodName)) hown45 (mvT hZ45 (hw _ (List.mem_of_getElem? (i := 37) rfl))) (mvT hZ45 (hw _ (List.mem_of_getElem? (i := 38) rfl))) (mvT hZ45 (hw _ (List.mem_of_getElem? (i := 5) rfl))) (mvT hZ45 (hw _ (List.mem_of_getElem? (i := 39) rfl))) (by decide) (backOfSH (W := 3) (rm8 l Z aa hw hEL [] (q2) (li2) G1 T80.heap n0 Z80 O2 P5 f83) hZ45 (hw _ (List.mem_of_getElem? (i := 39) rfl)) (hw _ (List.mem_of_getElem? (i := 5) rfl)) (by decide) (by decide) hEL CH85.1) (g := (mkF m 185 #[.val (.int p0), .val (.int p1), .val (.int p2), .val (.int p3), .val (.int s1), .val (.int s2), .val (.int li1), .val (.int lv1), .val (.int li2), .val (.int lv2), .val (.int q2), .val (.ref b20), .val (.int (p3 &&& (3 : Int32))), .unset, .unset] [(.int li2), (.int q2), (.ref r80), (.ref b77), (.ref b77)])) rfl (by rw [hml]; rfl) (argsL := [(.int q2), (.int li2)]) (rest := [(.ref r80), (.ref b77), (.ref b77)]) (lenOf pd_PIIQLjava_lang_String_ rfl) rfl (by show 2 * 0 + _ ≤ _; exact Nat.le_of_eq rfl) (hb hby at_185) (fun _ _ => ⟨rfl, (rfl : T80.heap = _), (by decide : 28 + 6 ≤ _), (by decide : 186 + 12 ≤ _)⟩)
        dsimp only [Pt.U, Pt.locs, Pt.cells, Pt.slots] at Xq87 S287 g287 l87 y87 z87 st87 hQ87 CR87
        subst l87 y87 z87
        obtain ⟨X87, hS87, hZ87, hown87⟩ := rebS hS45 (show _ ≤ T80.heap.size by rw [(rfl : T80.heap = _)]; exact f86) Xq87 S287 g287 hZ45 hown45
        have hk87 : T87.heap.size ≤ T87.heap.size := Nat.le_refl _
        have CH87 := CH85.trans CR87
        obtain ⟨r87, rfl, N87q, KV87, SO87⟩ := hQ87
        have N87 := Fr.app N80 N87q
        have K87 : ∀ t, Steps p.tables e below (T87.setTop (mkF m 188 #[.val (.int p0), .val (.int p1), .val (.int p2), .val (.int p3), .val (.int s1), .val (.int s2), .val (.int li1), .val (.int lv1), .val (.int li2), .val (.int lv2), .val (.int q2), .val (.ref b20), .val (.int (p3 &&& (3 : Int32))), .unset, .unset] [(.ref r87), (.ref r80), (.ref b77), (.ref b77)])) t → Steps p.tables e below G0 t := fun t kt => K82 t (st87.trans kt)
        have Z87 : n0 ≤ T87.heap.size := Nat.le_trans Z80 KV87.1
        have EE87 := SO87.1
        have f88 := (f81.keep KV87)
        have K89 : ∀ t, Steps p.tables e below (T87.setTop (mkF m 195 #[.val (.int p0), .val (.int p1), .val (.int p2), .val (.int p3), .val (.int s1), .val (.int s2), .val (.int li1), .val (.int lv1), .val (.int li2), .val (.int lv2), .val (.int q2), .val (.ref b20), .val (.int (p3 &&& (3 : Int32))), .unset, .unset] [(.int lv2), (.int ((q2.toUInt32 >>> ((16 : Int32) &&& 31).toUInt32).toInt32)), (.ref r87), (.ref r80), (.ref b77), (.ref b77)])) t → Steps p.tables e below G0 t := by
          intro t kt
          refine K87 t ?_
          refine XS.iload X87.here hx rfl (hb hby at_188) rfl ?_
          show Steps p.tables e below (T87.setTop (mkF m 190 #[.val (.int p0), .val (.int p1), .val (.int p2), .val (.int p3), .val (.int s1), .val (.int s2), .val (.int li1), .val (.int lv1), .val (.int li2), .val (.int lv2), .val (.int q2), .val (.ref b20), .val (.int (p3 &&& (3 : Int32))), .unset, .unset] [(.int q2), (.ref r87), (.ref r80), (.ref b77), (.ref b77)])) _
          refine XS.bipush X87.here hx rfl (hb hby at_190) ?_
          show Steps p.tables e below (T87.setTop (mkF m 192 #[.val (.int p0), .val (.int p1), .val (.int p2), .val (.int p3), .val (.int s1), .val (.int s2), .val (.int li1), .val (.int lv1), .val (.int li2), .val (.int lv2), .val (.int q2), .val (.ref b20), .val (.int (p3 &&& (3 : Int32))), .unset, .unset] [(.int (16 : Int32)), (.int q2), (.ref r87), (.ref r80), (.ref b77), (.ref b77)])) _
          refine XS.iushr X87.here hx rfl (hb hby at_192) rfl ?_
          show Steps p.tables e below (T87.setTop (mkF m 193 #[.val (.int p0), .val (.int p1), .val (.int p2), .val (.int p3), .val (.int s1), .val (.int s2), .val (.int li1), .val (.int lv1), .val (.int li2), .val (.int lv2), .val (.int q2), .val (.ref b20), .val (.int (p3 &&& (3 : Int32))), .unset, .unset] [(.int ((q2.toUInt32 >>> ((16 : Int32) &&& 31).toUInt32).toInt32)), (.ref r87), (.ref r80), (.ref b77), (.ref b77)])) _
          refine XS.iload X87.here hx rfl (hb hby at_193) rfl ?_
          show Steps p.tables e below (T87.setTop (mkF m 195 #[.val (.int p0), .val (.int p1), .val (.int p2), .val (.int p3), .val (.int s1), .val (.int s2), .val (.int li1), .val (.int lv1), .val (.int li2), .val (.int lv2), .val (.int q2), .val (.ref b20), .val (.int (p3 &&& (3 : Int32))), .unset, .unset] [(.int lv2), (.int ((q2.toUInt32 >>> ((16 : Int32) &&& 31).toUInt32).toInt32)), (.ref r87), (.ref r80), (.ref b77), (.ref b77)])) _
          exact kt
        have f90 := (f83.keep KV87 (fun x hx => nomatch hx))
        obtain ⟨v91, _, ⟨T91, L91, k91, n91⟩, -, Xq91, S291, g291, ⟨Lc91, hQ91, l91, y91, z91, CR91⟩, st91⟩ := callSS X87 hx (y := (⟨"com/example/lichen/lichen/model/PolicyIdentifierEqualsPinLaw", "str", "(II)Ljava/lang/String;"⟩ : MethodName)) hown87 (mvT hZ87 (hw _ (List.mem_of_getElem? (i := 37) rfl))) (mvT hZ87 (hw _ (List.mem_of_getElem? (i := 38) rfl))) (mvT hZ87 (hw _ (List.mem_of_getElem? (i := 5) rfl))) (mvT hZ87 (hw _ (List.mem_of_getElem? (i := 39) rfl))) (by decide) (backOfSH (W := 4) (rm8 l Z aa hw hEL [] (((q2.toUInt32 >>> ((16 : Int32) &&& 31).toUInt32).toInt32)) (lv2) G1 T87.heap n0 Z87 O2 P5 f90) hZ87 (hw _ (List.mem_of_getElem? (i := 39) rfl)) (hw _ (List.mem_of_getElem? (i := 5) rfl)) (by decide) (by decide) hEL CH87.1) (g := (mkF m 195 #[.val (.int p0), .val (.int p1), .val (.int p2), .val (.int p3), .val (.int s1), .val (.int s2), .val (.int li1), .val (.int lv1), .val (.int li2), .val (.int lv2), .val (.int q2), .val (.ref b20), .val (.int (p3 &&& (3 : Int32))), .unset, .unset] [(.int lv2), (.int ((q2.toUInt32 >>> ((16 : Int32) &&& 31).toUInt32).toInt32)), (.ref r87), (.ref r80), (.ref b77), (.ref b77)])) rfl (by rw [hml]; rfl) (argsL := [(.int ((q2.toUInt32 >>> ((16 : Int32) &&& 31).toUInt32).toInt32)), (.int lv2)]) (rest := [(.ref r87), (.ref r80), (.ref b77), (.ref b77)]) (lenOf pd_PIIQLjava_lang_String_ rfl) rfl (by show 2 * 0 + _ ≤ _; exact Nat.le_of_eq rfl) (hb hby at_195) (fun _ _ => ⟨rfl, (rfl : T87.heap = _), (by decide : 34 + 6 ≤ _), (by decide : 198 + 12 ≤ _)⟩)
        dsimp only [Pt.U, Pt.locs, Pt.cells, Pt.slots] at Xq91 S291 g291 l91 y91 z91 st91 hQ91 CR91
        subst l91 y91 z91
        obtain ⟨X91, hS91, hZ91, hown91⟩ := rebS hS87 (show _ ≤ T87.heap.size by rw [(rfl : T87.heap = _)]; exact hk87) Xq91 S291 g291 hZ87 hown87
        have hk91 : T91.heap.size ≤ T91.heap.size := Nat.le_refl _
        have CH91 := CH87.trans CR91
        obtain ⟨r91, rfl, N91q, KV91, SO91⟩ := hQ91
        have N91 := Fr.app N87 N91q
        have K91 : ∀ t, Steps p.tables e below (T91.setTop (mkF m 198 #[.val (.int p0), .val (.int p1), .val (.int p2), .val (.int p3), .val (.int s1), .val (.int s2), .val (.int li1), .val (.int lv1), .val (.int li2), .val (.int lv2), .val (.int q2), .val (.ref b20), .val (.int (p3 &&& (3 : Int32))), .unset, .unset] [(.ref r91), (.ref r87), (.ref r80), (.ref b77), (.ref b77)])) t → Steps p.tables e below G0 t := fun t kt => K89 t (st91.trans kt)
        have Z91 : n0 ≤ T91.heap.size := Nat.le_trans Z87 KV91.1
        have EE91 := SO91.1
        have f92 := (f88.keep KV91)
        have KQ93_0 := Keep.refl T80.heap []
        have KQ93_1 := KQ93_0.trans KV87 (fun x hx => nomatch hx)
        have KQ93_2 := KQ93_1.trans KV91 (fun x hx => nomatch hx)
        have s94 := own_Str.keep0 SO80 KQ93_2
        have KQ95_0 := Keep.refl T87.heap []
        have KQ95_1 := KQ95_0.trans KV91 (fun x hx => nomatch hx)
        have s96 := own_Str.keep0 SO87 KQ95_1
        have f97 := (f90.keep KV91 (fun x hx => nomatch hx))
        have f98 := (((F_kind_b77.keep KV80 (fun q => nomatch q)).keep KV87 (fun q => nomatch q)).keep KV91 (fun q => nomatch q))
        have f99 := (((F_id_b77.keep KV80 (fun q => nomatch q)).keep KV87 (fun q => nomatch q)).keep KV91 (fun q => nomatch q))
        have f100 := (((F_version_b77.keep KV80 (fun q => nomatch q)).keep KV87 (fun q => nomatch q)).keep KV91 (fun q => nomatch q))
        have f101 := (EE87.keep KV91)
        obtain ⟨v102, _, ⟨T102, L102, k102, n102⟩, -, Xq102, S2102, g2102, ⟨Lc102, hQ102, l102, y102, z102, CR102⟩, st102⟩ := X91.specialBackS hx (y := (⟨"com/example/lichen/lichen/model/PolicyIdentifier", "<init>", "(Ljava/lang/String;Ljava/lang/String;Ljava/lang/String;)V"⟩ : MethodName)) rfl hown91 (mvT hZ91 (hw _ (List.mem_of_getElem? (i := 43) rfl))) (mvT hZ91 (hw _ (List.mem_of_getElem? (i := 44) rfl))) (mvT hZ91 (hw _ (List.mem_of_getElem? (i := 45) rfl))) (by decide) (backOfSH (W := 1) (rm9 l Z aa hw hEL [] (b77) (r80) (r87) (r91) _ _ _ (own_kind s2) G1 T91.heap n0 Z91 O2 P5 f97 gn77 f92 f98 f99 f100 s94 (own_kindp s2) f101 EE91) hZ91 (hw _ (List.mem_of_getElem? (i := 45) rfl)) (hw _ (List.mem_of_getElem? (i := 2) rfl)) (by decide) (by decide) hEL CH91.1) (g := (mkF m 198 #[.val (.int p0), .val (.int p1), .val (.int p2), .val (.int p3), .val (.int s1), .val (.int s2), .val (.int li1), .val (.int lv1), .val (.int li2), .val (.int lv2), .val (.int q2), .val (.ref b20), .val (.int (p3 &&& (3 : Int32))), .unset, .unset] [(.ref r91), (.ref r87), (.ref r80), (.ref b77), (.ref b77)])) rfl (by rw [hml]; rfl) (Steps.refl _) (a := b77) (argsL := [(.ref r80), (.ref r87), (.ref r91)]) (rest := [(.ref b77)]) (lenOf pd_PLjava_lang_String_Ljava_lang_String_Ljava_lang_String_QV rfl) rfl (by show 2 * 0 + _ ≤ _; exact Nat.le_of_eq rfl) (hb hby at_198) (fun _ _ => ⟨rfl, (rfl : T91.heap = _), (by decide : 40 + 8 ≤ _), (by decide : 210 + 112 ≤ _)⟩)
        dsimp only [Pt.U, Pt.locs, Pt.cells, Pt.slots] at Xq102 S2102 g2102 l102 y102 z102 st102 hQ102 CR102
        subst l102 y102 z102
        obtain ⟨X102, hS102, hZ102, hown102⟩ := rebS hS91 (show _ ≤ T91.heap.size by rw [(rfl : T91.heap = _)]; exact hk91) Xq102 S2102 g2102 hZ91 hown91
        have hk102 : T102.heap.size ≤ T102.heap.size := Nat.le_refl _
        have CH102 := CH91.trans CR102
        obtain ⟨rfl, N102q, KV102, EX102, FK0102, FK1102, FK2102⟩ := hQ102
        have N102 := Fr.app N91 N102q
        have K102 : ∀ t, Steps p.tables e below (T102.setTop (mkF m 201 #[.val (.int p0), .val (.int p1), .val (.int p2), .val (.int p3), .val (.int s1), .val (.int s2), .val (.int li1), .val (.int lv1), .val (.int li2), .val (.int lv2), .val (.int q2), .val (.ref b20), .val (.int (p3 &&& (3 : Int32))), .unset, .unset] [(.ref b77)])) t → Steps p.tables e below G0 t := fun t kt => K91 t (st102.trans kt)
        have Z102 : n0 ≤ T102.heap.size := Nat.le_trans Z91 KV102.1
        have KQ103_0 := Keep.refl T91.heap [b77]
        have KQ103_1 := KQ103_0.trans KV102 (fun x hx => by simp only [List.mem_cons, List.not_mem_nil, or_false] at hx; rcases hx with rfl <;> first | exact (Or.inl (List.mem_of_getElem? (i := 0) rfl)))
        have s104 := own_Str.keepE s94 KQ103_1 f92 (by decide) (hw _ (List.mem_of_getElem? (i := 1) rfl))
        have KQ105_0 := Keep.refl T91.heap [b77]
        have KQ105_1 := KQ105_0.trans KV102 (fun x hx => by simp only [List.mem_cons, List.not_mem_nil, or_false] at hx; rcases hx with rfl <;> first | exact (Or.inl (List.mem_of_getElem? (i := 0) rfl)))
        have s106 := own_Str.keepE s96 KQ105_1 f92 (by decide) (hw _ (List.mem_of_getElem? (i := 1) rfl))
        have KQ107_0 := Keep.refl T91.heap [b77]
        have KQ107_1 := KQ107_0.trans KV102 (fun x hx => by simp only [List.mem_cons, List.not_mem_nil, or_false] at hx; rcases hx with rfl <;> first | exact (Or.inl (List.mem_of_getElem? (i := 0) rfl)))
        have s108 := own_Str.keepE SO91 KQ107_1 f92 (by decide) (hw _ (List.mem_of_getElem? (i := 1) rfl))
        have hE : own_e (own_kind s1) (own_kind s2) (own_str p1 li1) (own_str q2 li2) (own_str ((p1.toUInt32 >>> ((16 : Int32) &&& 31).toUInt32).toInt32) lv1) (own_str ((q2.toUInt32 >>> ((16 : Int32) &&& 31).toUInt32).toInt32) lv2) = if s1 = s2 then (if own_same p1 li1 q2 li2 = 0 then 0 else if own_same ((p1.toUInt32 >>> ((16 : Int32) &&& 31).toUInt32).toInt32) lv1 ((q2.toUInt32 >>> ((16 : Int32) &&& 31).toUInt32).toInt32) lv2 = 0 then 0 else 1) else 0 := by
          rw [own_e, own_kindq s1 s2 hs1 hs2, own_strq _ _ _ _ r_li1 r_li2, own_strq _ _ _ _ r_lv1 r_lv2]
          by_cases q : s1 = s2
          · rw [if_pos q, if_pos q, if_neg (by decide)]
          · rw [if_neg q, if_neg q, if_pos rfl]
        have K109 : ∀ t, Steps p.tables e below (T102.setTop (mkF m 207 #[.val (.int p0), .val (.int p1), .val (.int p2), .val (.int p3), .val (.int s1), .val (.int s2), .val (.int li1), .val (.int lv1), .val (.int li2), .val (.int lv2), .val (.int q2), .val (.ref b20), .val (.int (p3 &&& (3 : Int32))), .val (.ref b77), .unset] [(.int s2), (.int s1)])) t → Steps p.tables e below G0 t := by
          intro t kt
          refine K102 t ?_
          refine XS.astore X102.here hx rfl (hb hby at_201) rfl rfl (l' := #[.val (.int p0), .val (.int p1), .val (.int p2), .val (.int p3), .val (.int s1), .val (.int s2), .val (.int li1), .val (.int lv1), .val (.int li2), .val (.int lv2), .val (.int q2), .val (.ref b20), .val (.int (p3 &&& (3 : Int32))), .val (.ref b77), .unset]) rfl ?_
          show Steps p.tables e below (T102.setTop (mkF m 203 #[.val (.int p0), .val (.int p1), .val (.int p2), .val (.int p3), .val (.int s1), .val (.int s2), .val (.int li1), .val (.int lv1), .val (.int li2), .val (.int lv2), .val (.int q2), .val (.ref b20), .val (.int (p3 &&& (3 : Int32))), .val (.ref b77), .unset] [])) _
          refine XS.iload X102.here hx rfl (hb hby at_203) rfl ?_
          show Steps p.tables e below (T102.setTop (mkF m 205 #[.val (.int p0), .val (.int p1), .val (.int p2), .val (.int p3), .val (.int s1), .val (.int s2), .val (.int li1), .val (.int lv1), .val (.int li2), .val (.int lv2), .val (.int q2), .val (.ref b20), .val (.int (p3 &&& (3 : Int32))), .val (.ref b77), .unset] [(.int s1)])) _
          refine XS.iload X102.here hx rfl (hb hby at_205) rfl ?_
          show Steps p.tables e below (T102.setTop (mkF m 207 #[.val (.int p0), .val (.int p1), .val (.int p2), .val (.int p3), .val (.int s1), .val (.int s2), .val (.int li1), .val (.int lv1), .val (.int li2), .val (.int lv2), .val (.int q2), .val (.ref b20), .val (.int (p3 &&& (3 : Int32))), .val (.ref b77), .unset] [(.int s2), (.int s1)])) _
          exact kt
        by_cases hc110 : s1 = s2
        ·
          have K111 : ∀ t, Steps p.tables e below (T102.setTop (mkF m 217 #[.val (.int p0), .val (.int p1), .val (.int p2), .val (.int p3), .val (.int s1), .val (.int s2), .val (.int li1), .val (.int lv1), .val (.int li2), .val (.int lv2), .val (.int q2), .val (.ref b20), .val (.int (p3 &&& (3 : Int32))), .val (.ref b77), .unset] [(.int li2), (.int q2), (.int li1), (.int p1)])) t → Steps p.tables e below G0 t := by
            intro t kt
            refine K109 t ?_
            refine XS.icmpNo X102.here hx rfl (hb hby at_207) rfl (teq hc110).2 ?_
            show Steps p.tables e below (T102.setTop (mkF m 210 #[.val (.int p0), .val (.int p1), .val (.int p2), .val (.int p3), .val (.int s1), .val (.int s2), .val (.int li1), .val (.int lv1), .val (.int li2), .val (.int lv2), .val (.int q2), .val (.ref b20), .val (.int (p3 &&& (3 : Int32))), .val (.ref b77), .unset] [])) _
            refine XS.iloadN X102.here hx rfl (hb hby at_210) rfl ?_
            show Steps p.tables e below (T102.setTop (mkF m 211 #[.val (.int p0), .val (.int p1), .val (.int p2), .val (.int p3), .val (.int s1), .val (.int s2), .val (.int li1), .val (.int lv1), .val (.int li2), .val (.int lv2), .val (.int q2), .val (.ref b20), .val (.int (p3 &&& (3 : Int32))), .val (.ref b77), .unset] [(.int p1)])) _
            refine XS.iload X102.here hx rfl (hb hby at_211) rfl ?_
            show Steps p.tables e below (T102.setTop (mkF m 213 #[.val (.int p0), .val (.int p1), .val (.int p2), .val (.int p3), .val (.int s1), .val (.int s2), .val (.int li1), .val (.int lv1), .val (.int li2), .val (.int lv2), .val (.int q2), .val (.ref b20), .val (.int (p3 &&& (3 : Int32))), .val (.ref b77), .unset] [(.int li1), (.int p1)])) _
            refine XS.iload X102.here hx rfl (hb hby at_213) rfl ?_
            show Steps p.tables e below (T102.setTop (mkF m 215 #[.val (.int p0), .val (.int p1), .val (.int p2), .val (.int p3), .val (.int s1), .val (.int s2), .val (.int li1), .val (.int lv1), .val (.int li2), .val (.int lv2), .val (.int q2), .val (.ref b20), .val (.int (p3 &&& (3 : Int32))), .val (.ref b77), .unset] [(.int q2), (.int li1), (.int p1)])) _
            refine XS.iload X102.here hx rfl (hb hby at_215) rfl ?_
            show Steps p.tables e below (T102.setTop (mkF m 217 #[.val (.int p0), .val (.int p1), .val (.int p2), .val (.int p3), .val (.int s1), .val (.int s2), .val (.int li1), .val (.int lv1), .val (.int li2), .val (.int lv2), .val (.int q2), .val (.ref b20), .val (.int (p3 &&& (3 : Int32))), .val (.ref b77), .unset] [(.int li2), (.int q2), (.int li1), (.int p1)])) _
            exact kt
          obtain ⟨v112, _, ⟨T112, L112, k112, n112⟩, -, X112, ⟨Lc112, hQ112, l112, y112, z112⟩, st112⟩ := Jvm.LawKit.callS X102 hx (y := (⟨"com/example/lichen/lichen/model/PolicyIdentifierEqualsPinLaw", "same", "(IIII)Z"⟩ : MethodName)) hown102 (mvT hZ102 (hw _ (List.mem_of_getElem? (i := 84) rfl))) (mvT hZ102 (hw _ (List.mem_of_getElem? (i := 85) rfl))) (mvT hZ102 (hw _ (List.mem_of_getElem? (i := 5) rfl))) (mvT hZ102 (hw _ (List.mem_of_getElem? (i := 86) rfl))) (by decide) (backOf (W := 0) (rm15 l Z aa hw [] (p1) (li1) (q2) (li2)  T102.heap n0 Z102 ) hZ102 (hw _ (List.mem_of_getElem? (i := 86) rfl)) (hw _ (List.mem_of_getElem? (i := 5) rfl)) (by decide) (by decide)) (g := (mkF m 217 #[.val (.int p0), .val (.int p1), .val (.int p2), .val (.int p3), .val (.int s1), .val (.int s2), .val (.int li1), .val (.int lv1), .val (.int li2), .val (.int lv2), .val (.int q2), .val (.ref b20), .val (.int (p3 &&& (3 : Int32))), .val (.ref b77), .unset] [(.int li2), (.int q2), (.int li1), (.int p1)])) rfl (by rw [hml]; rfl) (argsL := [(.int p1), (.int li1), (.int q2), (.int li2)]) (rest := []) (lenOf pd_PIIIIQZ rfl) rfl (by show 2 * 0 + _ ≤ _; exact Nat.le_of_eq rfl) (hb hby at_217) (fun _ _ => ⟨rfl, (rfl : T102.heap = _), (by decide : 48 + 0 ≤ _), (by decide : 322 + 0 ≤ _)⟩)
          dsimp only [Pt.U, Pt.locs, Pt.cells, Pt.slots] at X112 l112 y112 z112 st112 hQ112
          subst l112 y112 z112
          obtain ⟨rfl, N112q, e112⟩ := hQ112
          have N112 := Fr.app N102 N112q
          have K112 : ∀ t, Steps p.tables e below (T112.setTop (mkF m 220 #[.val (.int p0), .val (.int p1), .val (.int p2), .val (.int p3), .val (.int s1), .val (.int s2), .val (.int li1), .val (.int lv1), .val (.int li2), .val (.int lv2), .val (.int q2), .val (.ref b20), .val (.int (p3 &&& (3 : Int32))), .val (.ref b77), .unset] [(.int (own_same p1 li1 q2 li2))])) t → Steps p.tables e below G0 t := fun t kt => K111 t (st112 _ kt)
          by_cases hc113 : (own_same p1 li1 q2 li2) = (0 : Int32)
          ·
            have K114 : ∀ t, Steps p.tables e below (T112.setTop (mkF m 249 #[.val (.int p0), .val (.int p1), .val (.int p2), .val (.int p3), .val (.int s1), .val (.int s2), .val (.int li1), .val (.int lv1), .val (.int li2), .val (.int lv2), .val (.int q2), .val (.ref b20), .val (.int (p3 &&& (3 : Int32))), .val (.ref b77), .val (.int (0 : Int32))] [])) t → Steps p.tables e below G0 t := by
              intro t kt
              refine K112 t ?_
              refine XS.ifYes X112.here hx rfl (pc0 := 220) (pc' := 246) rfl (hb hby at_220) rfl ((if0 _ _).trans (teq hc113).1) (by decide) (by decide) ?_
              show Steps p.tables e below (T112.setTop (mkF m 246 #[.val (.int p0), .val (.int p1), .val (.int p2), .val (.int p3), .val (.int s1), .val (.int s2), .val (.int li1), .val (.int lv1), .val (.int li2), .val (.int lv2), .val (.int q2), .val (.ref b20), .val (.int (p3 &&& (3 : Int32))), .val (.ref b77), .unset] [])) _
              refine XS.iconst X112.here hx rfl (hb hby at_246) ?_
              show Steps p.tables e below (T112.setTop (mkF m 247 #[.val (.int p0), .val (.int p1), .val (.int p2), .val (.int p3), .val (.int s1), .val (.int s2), .val (.int li1), .val (.int lv1), .val (.int li2), .val (.int lv2), .val (.int q2), .val (.ref b20), .val (.int (p3 &&& (3 : Int32))), .val (.ref b77), .unset] [(.int (0 : Int32))])) _
              refine XS.istore X112.here hx rfl (hb hby at_247) rfl (l' := #[.val (.int p0), .val (.int p1), .val (.int p2), .val (.int p3), .val (.int s1), .val (.int s2), .val (.int li1), .val (.int lv1), .val (.int li2), .val (.int lv2), .val (.int q2), .val (.ref b20), .val (.int (p3 &&& (3 : Int32))), .val (.ref b77), .val (.int (0 : Int32))]) rfl ?_
              show Steps p.tables e below (T112.setTop (mkF m 249 #[.val (.int p0), .val (.int p1), .val (.int p2), .val (.int p3), .val (.int s1), .val (.int s2), .val (.int li1), .val (.int lv1), .val (.int li2), .val (.int lv2), .val (.int q2), .val (.ref b20), .val (.int (p3 &&& (3 : Int32))), .val (.ref b77), .val (.int (0 : Int32))] [])) _
              exact kt
            rw [if_pos hc110, if_pos hc113] at hE
            have K115 : ∀ t, Steps p.tables e below (T112.setTop (mkF m 253 #[.val (.int p0), .val (.int p1), .val (.int p2), .val (.int p3), .val (.int s1), .val (.int s2), .val (.int li1), .val (.int lv1), .val (.int li2), .val (.int lv2), .val (.int q2), .val (.ref b20), .val (.int (p3 &&& (3 : Int32))), .val (.ref b77), .val (.int (0 : Int32))] [(.ref b77), (.ref b20)])) t → Steps p.tables e below G0 t := by
              intro t kt
              refine K114 t ?_
              refine XS.aload X112.here hx rfl (hb hby at_249) rfl rfl ?_
              show Steps p.tables e below (T112.setTop (mkF m 251 #[.val (.int p0), .val (.int p1), .val (.int p2), .val (.int p3), .val (.int s1), .val (.int s2), .val (.int li1), .val (.int lv1), .val (.int li2), .val (.int lv2), .val (.int q2), .val (.ref b20), .val (.int (p3 &&& (3 : Int32))), .val (.ref b77), .val (.int (0 : Int32))] [(.ref b20)])) _
              refine XS.aload X112.here hx rfl (hb hby at_251) rfl rfl ?_
              show Steps p.tables e below (T112.setTop (mkF m 253 #[.val (.int p0), .val (.int p1), .val (.int p2), .val (.int p3), .val (.int s1), .val (.int s2), .val (.int li1), .val (.int lv1), .val (.int li2), .val (.int lv2), .val (.int q2), .val (.ref b20), .val (.int (p3 &&& (3 : Int32))), .val (.ref b77), .val (.int (0 : Int32))] [(.ref b77), (.ref b20)])) _
              exact kt
            have f116 := (f97.keep KV102 (fun x hx => by cases List.mem_singleton.mp hx; exact gn77))
            have f117 := (((((FK045.ext E77).keep KV80 (fun q => nomatch q)).keep KV87 (fun q => nomatch q)).keep KV91 (fun q => nomatch q)).keep KV102 (fun q => ne_b20_b77 (List.mem_singleton.mp q)))
            have f118 := (((((FK145.ext E77).keep KV80 (fun q => nomatch q)).keep KV87 (fun q => nomatch q)).keep KV91 (fun q => nomatch q)).keep KV102 (fun q => ne_b20_b77 (List.mem_singleton.mp q)))
            have f119 := (((((FK245.ext E77).keep KV80 (fun q => nomatch q)).keep KV87 (fun q => nomatch q)).keep KV91 (fun q => nomatch q)).keep KV102 (fun q => ne_b20_b77 (List.mem_singleton.mp q)))
            have KQ120_0 := Keep.refl T45.heap []
            have sz120_77 := Nat.le_trans KQ120_0.1 (Nat.le_of_eq g77.symm)
            have KQ120_1 := KQ120_0.ext E77
            have KQ120_2 := KQ120_1.trans KV80 (fun x hx => nomatch hx)
            have KQ120_3 := KQ120_2.trans KV87 (fun x hx => nomatch hx)
            have KQ120_4 := KQ120_3.trans KV91 (fun x hx => nomatch hx)
            have KQ120_5 := KQ120_4.trans KV102 (fun x hx => by simp only [List.mem_cons, List.not_mem_nil, or_false] at hx; rcases hx with rfl <;> first | exact (Or.inr sz120_77))
            have s121 := own_Str.keep0 s47 KQ120_5
            have KQ122_0 := Keep.refl T45.heap []
            have sz122_77 := Nat.le_trans KQ122_0.1 (Nat.le_of_eq g77.symm)
            have KQ122_1 := KQ122_0.ext E77
            have KQ122_2 := KQ122_1.trans KV80 (fun x hx => nomatch hx)
            have KQ122_3 := KQ122_2.trans KV87 (fun x hx => nomatch hx)
            have KQ122_4 := KQ122_3.trans KV91 (fun x hx => nomatch hx)
            have KQ122_5 := KQ122_4.trans KV102 (fun x hx => by simp only [List.mem_cons, List.not_mem_nil, or_false] at hx; rcases hx with rfl <;> first | exact (Or.inr sz122_77))
            have s123 := own_Str.keep0 s49 KQ122_5
            have KQ124_0 := Keep.refl T45.heap []
            have sz124_77 := Nat.le_trans KQ124_0.1 (Nat.le_of_eq g77.symm)
            have KQ124_1 := KQ124_0.ext E77
            have KQ124_2 := KQ124_1.trans KV80 (fun x hx => nomatch hx)
            have KQ124_3 := KQ124_2.trans KV87 (fun x hx => nomatch hx)
            have KQ124_4 := KQ124_3.trans KV91 (fun x hx => nomatch hx)
            have KQ124_5 := KQ124_4.trans KV102 (fun x hx => by simp only [List.mem_cons, List.not_mem_nil, or_false] at hx; rcases hx with rfl <;> first | exact (Or.inr sz124_77))
            have s125 := own_Str.keep0 s51 KQ124_5
            have f126 := (((((EX45.ext E77).keep KV80).keep KV87).keep KV91).keep KV102)
            obtain ⟨cq127, kq127, q127a, q127b, q127c⟩ := isOf hZ102 e112 f126
            obtain ⟨v128, _, ⟨T128, L128, k128, n128⟩, -, X128, ⟨Lc128, hQ128, l128, y128, z128⟩, st128⟩ := X112.virtualBack hx (y := (⟨"com/example/lichen/lichen/model/PolicyIdentifier", "equals", "(Ljava/lang/Object;)Z"⟩ : MethodName)) (z := (⟨"com/example/lichen/lichen/model/PolicyIdentifier", "equals", "(Ljava/lang/Object;)Z"⟩ : MethodName)) hown102 (mvT hZ102 (hw _ (List.mem_of_getElem? (i := 74) rfl))) (mvT hZ102 (hw _ (List.mem_of_getElem? (i := 75) rfl))) (notFace_of_selects (args := #[]) (mvT hZ102 (hw _ (List.mem_of_getElem? (i := 77) rfl)))) (mvT hZ102 (hw _ (List.mem_of_getElem? (i := 77) rfl))) (mvT hZ102 (hw _ (List.mem_of_getElem? (i := 76) rfl))) (by decide) (backOf (W := 0) (rm14 l Z aa hw [] (b20) (b77) r23 r30 r34 r80 r87 r91 (own_kind s1) (own_str p1 li1) (own_str ((p1.toUInt32 >>> ((16 : Int32) &&& 31).toUInt32).toInt32) lv1) (own_kind s2) (own_str q2 li2) (own_str ((q2.toUInt32 >>> ((16 : Int32) &&& 31).toUInt32).toInt32) lv2) G1 T102.heap n0 Z102 O2 P5 f116 f117 f118 f119 s121 s123 s125 FK0102 FK1102 FK2102 s104 s106 s108 EX102) hZ102 (hw _ (List.mem_of_getElem? (i := 78) rfl)) (hw _ (List.mem_of_getElem? (i := 2) rfl)) (by decide) (by decide)) q127a q127c (g := (mkF m 253 #[.val (.int p0), .val (.int p1), .val (.int p2), .val (.int p3), .val (.int s1), .val (.int s2), .val (.int li1), .val (.int lv1), .val (.int li2), .val (.int lv2), .val (.int q2), .val (.ref b20), .val (.int (p3 &&& (3 : Int32))), .val (.ref b77), .val (.int (0 : Int32))] [(.ref b77), (.ref b20)])) rfl (by rw [hml]; rfl) (Steps.refl _) (argsL := [(.ref b77)]) (rest := []) (lenOf pd_PLjava_lang_Object_QZ rfl) rfl (by show 2 * 0 + _ ≤ _; exact Nat.le_of_eq rfl) (hb hby at_253) (fun _ _ => ⟨rfl, e112, (by decide : 48 + 0 ≤ _), (by decide : 322 + 0 ≤ _)⟩)
            dsimp only [Pt.U, Pt.locs, Pt.cells, Pt.slots] at X128 l128 y128 z128 st128 hQ128
            subst l128 y128 z128
            obtain ⟨rfl, N128q, e128⟩ := hQ128
            have N128 := Fr.app N112 N128q
            have K128 : ∀ t, Steps p.tables e below (T128.setTop (mkF m 256 #[.val (.int p0), .val (.int p1), .val (.int p2), .val (.int p3), .val (.int s1), .val (.int s2), .val (.int li1), .val (.int lv1), .val (.int li2), .val (.int lv2), .val (.int q2), .val (.ref b20), .val (.int (p3 &&& (3 : Int32))), .val (.ref b77), .val (.int (0 : Int32))] [(.int (own_e (own_kind s1) (own_kind s2) (own_str p1 li1) (own_str q2 li2) (own_str ((p1.toUInt32 >>> ((16 : Int32) &&& 31).toUInt32).toInt32) lv1) (own_str ((q2.toUInt32 >>> ((16 : Int32) &&& 31).toUInt32).toInt32) lv2)))])) t → Steps p.tables e below G0 t := fun t kt => K115 t (st128.trans kt)
            have K129 : ∀ t, Steps p.tables e below (T128.setTop (mkF m 265 #[.val (.int p0), .val (.int p1), .val (.int p2), .val (.int p3), .val (.int s1), .val (.int s2), .val (.int li1), .val (.int lv1), .val (.int li2), .val (.int lv2), .val (.int q2), .val (.ref b20), .val (.int (p3 &&& (3 : Int32))), .val (.ref b77), .val (.int (0 : Int32))] [(.ref b20), (.ref b77)])) t → Steps p.tables e below G0 t := by
              intro t kt
              refine K128 t ?_
              refine XS.iload X128.here hx rfl (hb hby at_256) rfl ?_
              show Steps p.tables e below (T128.setTop (mkF m 258 #[.val (.int p0), .val (.int p1), .val (.int p2), .val (.int p3), .val (.int s1), .val (.int s2), .val (.int li1), .val (.int lv1), .val (.int li2), .val (.int lv2), .val (.int q2), .val (.ref b20), .val (.int (p3 &&& (3 : Int32))), .val (.ref b77), .val (.int (0 : Int32))] [(.int (0 : Int32)), (.int (own_e (own_kind s1) (own_kind s2) (own_str p1 li1) (own_str q2 li2) (own_str ((p1.toUInt32 >>> ((16 : Int32) &&& 31).toUInt32).toInt32) lv1) (own_str ((q2.toUInt32 >>> ((16 : Int32) &&& 31).toUInt32).toInt32) lv2)))])) _
              refine XS.icmpNo X128.here hx rfl (hb hby at_258) rfl (teq hE).2 ?_
              show Steps p.tables e below (T128.setTop (mkF m 261 #[.val (.int p0), .val (.int p1), .val (.int p2), .val (.int p3), .val (.int s1), .val (.int s2), .val (.int li1), .val (.int lv1), .val (.int li2), .val (.int lv2), .val (.int q2), .val (.ref b20), .val (.int (p3 &&& (3 : Int32))), .val (.ref b77), .val (.int (0 : Int32))] [])) _
              refine XS.aload X128.here hx rfl (hb hby at_261) rfl rfl ?_
              show Steps p.tables e below (T128.setTop (mkF m 263 #[.val (.int p0), .val (.int p1), .val (.int p2), .val (.int p3), .val (.int s1), .val (.int s2), .val (.int li1), .val (.int lv1), .val (.int li2), .val (.int lv2), .val (.int q2), .val (.ref b20), .val (.int (p3 &&& (3 : Int32))), .val (.ref b77), .val (.int (0 : Int32))] [(.ref b77)])) _
              refine XS.aload X128.here hx rfl (hb hby at_263) rfl rfl ?_
              show Steps p.tables e below (T128.setTop (mkF m 265 #[.val (.int p0), .val (.int p1), .val (.int p2), .val (.int p3), .val (.int s1), .val (.int s2), .val (.int li1), .val (.int lv1), .val (.int li2), .val (.int lv2), .val (.int q2), .val (.ref b20), .val (.int (p3 &&& (3 : Int32))), .val (.ref b77), .val (.int (0 : Int32))] [(.ref b20), (.ref b77)])) _
              exact kt
            obtain ⟨cq130, kq130, q130a, q130b, q130c⟩ := isOf hZ102 e128 EX102
            obtain ⟨v131, _, ⟨T131, L131, k131, n131⟩, -, X131, ⟨Lc131, hQ131, l131, y131, z131⟩, st131⟩ := X128.virtualBack hx (y := (⟨"com/example/lichen/lichen/model/PolicyIdentifier", "equals", "(Ljava/lang/Object;)Z"⟩ : MethodName)) (z := (⟨"com/example/lichen/lichen/model/PolicyIdentifier", "equals", "(Ljava/lang/Object;)Z"⟩ : MethodName)) hown102 (mvT hZ102 (hw _ (List.mem_of_getElem? (i := 74) rfl))) (mvT hZ102 (hw _ (List.mem_of_getElem? (i := 75) rfl))) (notFace_of_selects (args := #[]) (mvT hZ102 (hw _ (List.mem_of_getElem? (i := 77) rfl)))) (mvT hZ102 (hw _ (List.mem_of_getElem? (i := 77) rfl))) (mvT hZ102 (hw _ (List.mem_of_getElem? (i := 76) rfl))) (by decide) (backOf (W := 0) (rm14 l Z aa hw [] (b77) (b20) r80 r87 r91 r23 r30 r34 (own_kind s2) (own_str q2 li2) (own_str ((q2.toUInt32 >>> ((16 : Int32) &&& 31).toUInt32).toInt32) lv2) (own_kind s1) (own_str p1 li1) (own_str ((p1.toUInt32 >>> ((16 : Int32) &&& 31).toUInt32).toInt32) lv1) G1 T102.heap n0 Z102 O2 P5 f116 FK0102 FK1102 FK2102 s104 s106 s108 f117 f118 f119 s121 s123 s125 f126) hZ102 (hw _ (List.mem_of_getElem? (i := 78) rfl)) (hw _ (List.mem_of_getElem? (i := 2) rfl)) (by decide) (by decide)) q130a q130c (g := (mkF m 265 #[.val (.int p0), .val (.int p1), .val (.int p2), .val (.int p3), .val (.int s1), .val (.int s2), .val (.int li1), .val (.int lv1), .val (.int li2), .val (.int lv2), .val (.int q2), .val (.ref b20), .val (.int (p3 &&& (3 : Int32))), .val (.ref b77), .val (.int (0 : Int32))] [(.ref b20), (.ref b77)])) rfl (by rw [hml]; rfl) (Steps.refl _) (argsL := [(.ref b20)]) (rest := []) (lenOf pd_PLjava_lang_Object_QZ rfl) rfl (by show 2 * 0 + _ ≤ _; exact Nat.le_of_eq rfl) (hb hby at_265) (fun _ _ => ⟨rfl, e128, (by decide : 48 + 0 ≤ _), (by decide : 322 + 0 ≤ _)⟩)
            dsimp only [Pt.U, Pt.locs, Pt.cells, Pt.slots] at X131 l131 y131 z131 st131 hQ131
            subst l131 y131 z131
            obtain ⟨rfl, N131q, e131⟩ := hQ131
            have N131 := Fr.app N128 N131q
            have K131 : ∀ t, Steps p.tables e below (T131.setTop (mkF m 268 #[.val (.int p0), .val (.int p1), .val (.int p2), .val (.int p3), .val (.int s1), .val (.int s2), .val (.int li1), .val (.int lv1), .val (.int li2), .val (.int lv2), .val (.int q2), .val (.ref b20), .val (.int (p3 &&& (3 : Int32))), .val (.ref b77), .val (.int (0 : Int32))] [(.int (own_e (own_kind s2) (own_kind s1) (own_str q2 li2) (own_str p1 li1) (own_str ((q2.toUInt32 >>> ((16 : Int32) &&& 31).toUInt32).toInt32) lv2) (own_str ((p1.toUInt32 >>> ((16 : Int32) &&& 31).toUInt32).toInt32) lv1)))])) t → Steps p.tables e below G0 t := fun t kt => K129 t (st131.trans kt)
            have K132 : ∀ t, Steps p.tables e below (T131.setTop (mkF m 278 #[.val (.int p0), .val (.int p1), .val (.int p2), .val (.int p3), .val (.int s1), .val (.int s2), .val (.int li1), .val (.int lv1), .val (.int li2), .val (.int lv2), .val (.int q2), .val (.ref b20), .val (.int (p3 &&& (3 : Int32))), .val (.ref b77), .val (.int (0 : Int32))] [(.int (1 : Int32))])) t → Steps p.tables e below G0 t := by
              intro t kt
              refine K131 t ?_
              refine XS.iload X131.here hx rfl (hb hby at_268) rfl ?_
              show Steps p.tables e below (T131.setTop (mkF m 270 #[.val (.int p0), .val (.int p1), .val (.int p2), .val (.int p3), .val (.int s1), .val (.int s2), .val (.int li1), .val (.int lv1), .val (.int li2), .val (.int lv2), .val (.int q2), .val (.ref b20), .val (.int (p3 &&& (3 : Int32))), .val (.ref b77), .val (.int (0 : Int32))] [(.int (0 : Int32)), (.int (own_e (own_kind s2) (own_kind s1) (own_str q2 li2) (own_str p1 li1) (own_str ((q2.toUInt32 >>> ((16 : Int32) &&& 31).toUInt32).toInt32) lv2) (own_str ((p1.toUInt32 >>> ((16 : Int32) &&& 31).toUInt32).toInt32) lv1)))])) _
              refine XS.icmpNo X131.here hx rfl (hb hby at_270) rfl (teq ((own_ec _ _ _ _ _ _).trans hE)).2 ?_
              show Steps p.tables e below (T131.setTop (mkF m 273 #[.val (.int p0), .val (.int p1), .val (.int p2), .val (.int p3), .val (.int s1), .val (.int s2), .val (.int li1), .val (.int lv1), .val (.int li2), .val (.int lv2), .val (.int q2), .val (.ref b20), .val (.int (p3 &&& (3 : Int32))), .val (.ref b77), .val (.int (0 : Int32))] [])) _
              refine XS.iconst X131.here hx rfl (hb hby at_273) ?_
              show Steps p.tables e below (T131.setTop (mkF m 274 #[.val (.int p0), .val (.int p1), .val (.int p2), .val (.int p3), .val (.int s1), .val (.int s2), .val (.int li1), .val (.int lv1), .val (.int li2), .val (.int lv2), .val (.int q2), .val (.ref b20), .val (.int (p3 &&& (3 : Int32))), .val (.ref b77), .val (.int (0 : Int32))] [(.int (1 : Int32))])) _
              refine XS.goto X131.here hx rfl (pc0 := 274) (pc' := 278) rfl (hb hby at_274) (by decide) (by decide) ?_
              show Steps p.tables e below (T131.setTop (mkF m 278 #[.val (.int p0), .val (.int p1), .val (.int p2), .val (.int p3), .val (.int s1), .val (.int s2), .val (.int li1), .val (.int lv1), .val (.int li2), .val (.int lv2), .val (.int q2), .val (.ref b20), .val (.int (p3 &&& (3 : Int32))), .val (.ref b77), .val (.int (0 : Int32))] [(.int (1 : Int32))])) _
              exact kt
            obtain ⟨fs, hr, hrun, hended, hREW⟩ := X131.leaveW hS102 (by rw [e131]; exact hk102) (v := some (.int (1 : Int32))) (fun h => by rw [Bd.returns] at h; cases h)
            have CHE := CH102.trans (CHv.at X131 hZ102 hEL CH102.1)
            refine ⟨_, _, ?_, hrun, hended, _, _, rfl, ?_, ?_, hREW.1, hREW.2.1, hREW.2.2.1, hREW.2.2.2.mono (by decide) (by decide)⟩
            · rw [← hG0]
              refine K132 _ ?_
              exact retN X131 hx (t := .boolean) Bd.returns (by simp) (hb hby at_278) hr
            · show Q0 Z p0 p1 p2 p3 G1 h0 n0 _ T131.heap _
              rw [e131]
              exact ⟨rfl, N131⟩
            · rw [hh]
              show CHr Z consts_1 s.vm h0 T131.vm T131.heap
              rw [e131]
              exact CHE
          ·
            have K133 : ∀ t, Steps p.tables e below (T112.setTop (mkF m 236 #[.val (.int p0), .val (.int p1), .val (.int p2), .val (.int p3), .val (.int s1), .val (.int s2), .val (.int li1), .val (.int lv1), .val (.int li2), .val (.int lv2), .val (.int q2), .val (.ref b20), .val (.int (p3 &&& (3 : Int32))), .val (.ref b77), .unset] [(.int lv2), (.int ((q2.toUInt32 >>> ((16 : Int32) &&& 31).toUInt32).toInt32)), (.int lv1), (.int ((p1.toUInt32 >>> ((16 : Int32) &&& 31).toUInt32).toInt32))])) t → Steps p.tables e below G0 t := by
              intro t kt
              refine K112 t ?_
              refine XS.ifNo X112.here hx rfl (hb hby at_220) rfl ((if0 _ _).trans (feq hc113).1) ?_
              show Steps p.tables e below (T112.setTop (mkF m 223 #[.val (.int p0), .val (.int p1), .val (.int p2), .val (.int p3), .val (.int s1), .val (.int s2), .val (.int li1), .val (.int lv1), .val (.int li2), .val (.int lv2), .val (.int q2), .val (.ref b20), .val (.int (p3 &&& (3 : Int32))), .val (.ref b77), .unset] [])) _
              refine XS.iloadN X112.here hx rfl (hb hby at_223) rfl ?_
              show Steps p.tables e below (T112.setTop (mkF m 224 #[.val (.int p0), .val (.int p1), .val (.int p2), .val (.int p3), .val (.int s1), .val (.int s2), .val (.int li1), .val (.int lv1), .val (.int li2), .val (.int lv2), .val (.int q2), .val (.ref b20), .val (.int (p3 &&& (3 : Int32))), .val (.ref b77), .unset] [(.int p1)])) _
              refine XS.bipush X112.here hx rfl (hb hby at_224) ?_
              show Steps p.tables e below (T112.setTop (mkF m 226 #[.val (.int p0), .val (.int p1), .val (.int p2), .val (.int p3), .val (.int s1), .val (.int s2), .val (.int li1), .val (.int lv1), .val (.int li2), .val (.int lv2), .val (.int q2), .val (.ref b20), .val (.int (p3 &&& (3 : Int32))), .val (.ref b77), .unset] [(.int (16 : Int32)), (.int p1)])) _
              refine XS.iushr X112.here hx rfl (hb hby at_226) rfl ?_
              show Steps p.tables e below (T112.setTop (mkF m 227 #[.val (.int p0), .val (.int p1), .val (.int p2), .val (.int p3), .val (.int s1), .val (.int s2), .val (.int li1), .val (.int lv1), .val (.int li2), .val (.int lv2), .val (.int q2), .val (.ref b20), .val (.int (p3 &&& (3 : Int32))), .val (.ref b77), .unset] [(.int ((p1.toUInt32 >>> ((16 : Int32) &&& 31).toUInt32).toInt32))])) _
              refine XS.iload X112.here hx rfl (hb hby at_227) rfl ?_
              show Steps p.tables e below (T112.setTop (mkF m 229 #[.val (.int p0), .val (.int p1), .val (.int p2), .val (.int p3), .val (.int s1), .val (.int s2), .val (.int li1), .val (.int lv1), .val (.int li2), .val (.int lv2), .val (.int q2), .val (.ref b20), .val (.int (p3 &&& (3 : Int32))), .val (.ref b77), .unset] [(.int lv1), (.int ((p1.toUInt32 >>> ((16 : Int32) &&& 31).toUInt32).toInt32))])) _
              refine XS.iload X112.here hx rfl (hb hby at_229) rfl ?_
              show Steps p.tables e below (T112.setTop (mkF m 231 #[.val (.int p0), .val (.int p1), .val (.int p2), .val (.int p3), .val (.int s1), .val (.int s2), .val (.int li1), .val (.int lv1), .val (.int li2), .val (.int lv2), .val (.int q2), .val (.ref b20), .val (.int (p3 &&& (3 : Int32))), .val (.ref b77), .unset] [(.int q2), (.int lv1), (.int ((p1.toUInt32 >>> ((16 : Int32) &&& 31).toUInt32).toInt32))])) _
              refine XS.bipush X112.here hx rfl (hb hby at_231) ?_
              show Steps p.tables e below (T112.setTop (mkF m 233 #[.val (.int p0), .val (.int p1), .val (.int p2), .val (.int p3), .val (.int s1), .val (.int s2), .val (.int li1), .val (.int lv1), .val (.int li2), .val (.int lv2), .val (.int q2), .val (.ref b20), .val (.int (p3 &&& (3 : Int32))), .val (.ref b77), .unset] [(.int (16 : Int32)), (.int q2), (.int lv1), (.int ((p1.toUInt32 >>> ((16 : Int32) &&& 31).toUInt32).toInt32))])) _
              refine XS.iushr X112.here hx rfl (hb hby at_233) rfl ?_
              show Steps p.tables e below (T112.setTop (mkF m 234 #[.val (.int p0), .val (.int p1), .val (.int p2), .val (.int p3), .val (.int s1), .val (.int s2), .val (.int li1), .val (.int lv1), .val (.int li2), .val (.int lv2), .val (.int q2), .val (.ref b20), .val (.int (p3 &&& (3 : Int32))), .val (.ref b77), .unset] [(.int ((q2.toUInt32 >>> ((16 : Int32) &&& 31).toUInt32).toInt32)), (.int lv1), (.int ((p1.toUInt32 >>> ((16 : Int32) &&& 31).toUInt32).toInt32))])) _
              refine XS.iload X112.here hx rfl (hb hby at_234) rfl ?_
              show Steps p.tables e below (T112.setTop (mkF m 236 #[.val (.int p0), .val (.int p1), .val (.int p2), .val (.int p3), .val (.int s1), .val (.int s2), .val (.int li1), .val (.int lv1), .val (.int li2), .val (.int lv2), .val (.int q2), .val (.ref b20), .val (.int (p3 &&& (3 : Int32))), .val (.ref b77), .unset] [(.int lv2), (.int ((q2.toUInt32 >>> ((16 : Int32) &&& 31).toUInt32).toInt32)), (.int lv1), (.int ((p1.toUInt32 >>> ((16 : Int32) &&& 31).toUInt32).toInt32))])) _
              exact kt
            obtain ⟨v134, _, ⟨T134, L134, k134, n134⟩, -, X134, ⟨Lc134, hQ134, l134, y134, z134⟩, st134⟩ := Jvm.LawKit.callS X112 hx (y := (⟨"com/example/lichen/lichen/model/PolicyIdentifierEqualsPinLaw", "same", "(IIII)Z"⟩ : MethodName)) hown102 (mvT hZ102 (hw _ (List.mem_of_getElem? (i := 84) rfl))) (mvT hZ102 (hw _ (List.mem_of_getElem? (i := 85) rfl))) (mvT hZ102 (hw _ (List.mem_of_getElem? (i := 5) rfl))) (mvT hZ102 (hw _ (List.mem_of_getElem? (i := 86) rfl))) (by decide) (backOf (W := 0) (rm15 l Z aa hw [] (((p1.toUInt32 >>> ((16 : Int32) &&& 31).toUInt32).toInt32)) (lv1) (((q2.toUInt32 >>> ((16 : Int32) &&& 31).toUInt32).toInt32)) (lv2)  T102.heap n0 Z102 ) hZ102 (hw _ (List.mem_of_getElem? (i := 86) rfl)) (hw _ (List.mem_of_getElem? (i := 5) rfl)) (by decide) (by decide)) (g := (mkF m 236 #[.val (.int p0), .val (.int p1), .val (.int p2), .val (.int p3), .val (.int s1), .val (.int s2), .val (.int li1), .val (.int lv1), .val (.int li2), .val (.int lv2), .val (.int q2), .val (.ref b20), .val (.int (p3 &&& (3 : Int32))), .val (.ref b77), .unset] [(.int lv2), (.int ((q2.toUInt32 >>> ((16 : Int32) &&& 31).toUInt32).toInt32)), (.int lv1), (.int ((p1.toUInt32 >>> ((16 : Int32) &&& 31).toUInt32).toInt32))])) rfl (by rw [hml]; rfl) (argsL := [(.int ((p1.toUInt32 >>> ((16 : Int32) &&& 31).toUInt32).toInt32)), (.int lv1), (.int ((q2.toUInt32 >>> ((16 : Int32) &&& 31).toUInt32).toInt32)), (.int lv2)]) (rest := []) (lenOf pd_PIIIIQZ rfl) rfl (by show 2 * 0 + _ ≤ _; exact Nat.le_of_eq rfl) (hb hby at_236) (fun _ _ => ⟨rfl, e112, (by decide : 48 + 0 ≤ _), (by decide : 322 + 0 ≤ _)⟩)
            dsimp only [Pt.U, Pt.locs, Pt.cells, Pt.slots] at X134 l134 y134 z134 st134 hQ134
            subst l134 y134 z134
            obtain ⟨rfl, N134q, e134⟩ := hQ134
            have N134 := Fr.app N112 N134q
            have K134 : ∀ t, Steps p.tables e below (T134.setTop (mkF m 239 #[.val (.int p0), .val (.int p1), .val (.int p2), .val (.int p3), .val (.int s1), .val (.int s2), .val (.int li1), .val (.int lv1), .val (.int li2), .val (.int lv2), .val (.int q2), .val (.ref b20), .val (.int (p3 &&& (3 : Int32))), .val (.ref b77), .unset] [(.int (own_same ((p1.toUInt32 >>> ((16 : Int32) &&& 31).toUInt32).toInt32) lv1 ((q2.toUInt32 >>> ((16 : Int32) &&& 31).toUInt32).toInt32) lv2))])) t → Steps p.tables e below G0 t := fun t kt => K133 t (st134 _ kt)
            by_cases hc135 : (own_same ((p1.toUInt32 >>> ((16 : Int32) &&& 31).toUInt32).toInt32) lv1 ((q2.toUInt32 >>> ((16 : Int32) &&& 31).toUInt32).toInt32) lv2) = (0 : Int32)
            ·
              have K136 : ∀ t, Steps p.tables e below (T134.setTop (mkF m 249 #[.val (.int p0), .val (.int p1), .val (.int p2), .val (.int p3), .val (.int s1), .val (.int s2), .val (.int li1), .val (.int lv1), .val (.int li2), .val (.int lv2), .val (.int q2), .val (.ref b20), .val (.int (p3 &&& (3 : Int32))), .val (.ref b77), .val (.int (0 : Int32))] [])) t → Steps p.tables e below G0 t := by
                intro t kt
                refine K134 t ?_
                refine XS.ifYes X134.here hx rfl (pc0 := 239) (pc' := 246) rfl (hb hby at_239) rfl ((if0 _ _).trans (teq hc135).1) (by decide) (by decide) ?_
                show Steps p.tables e below (T134.setTop (mkF m 246 #[.val (.int p0), .val (.int p1), .val (.int p2), .val (.int p3), .val (.int s1), .val (.int s2), .val (.int li1), .val (.int lv1), .val (.int li2), .val (.int lv2), .val (.int q2), .val (.ref b20), .val (.int (p3 &&& (3 : Int32))), .val (.ref b77), .unset] [])) _
                refine XS.iconst X134.here hx rfl (hb hby at_246) ?_
                show Steps p.tables e below (T134.setTop (mkF m 247 #[.val (.int p0), .val (.int p1), .val (.int p2), .val (.int p3), .val (.int s1), .val (.int s2), .val (.int li1), .val (.int lv1), .val (.int li2), .val (.int lv2), .val (.int q2), .val (.ref b20), .val (.int (p3 &&& (3 : Int32))), .val (.ref b77), .unset] [(.int (0 : Int32))])) _
                refine XS.istore X134.here hx rfl (hb hby at_247) rfl (l' := #[.val (.int p0), .val (.int p1), .val (.int p2), .val (.int p3), .val (.int s1), .val (.int s2), .val (.int li1), .val (.int lv1), .val (.int li2), .val (.int lv2), .val (.int q2), .val (.ref b20), .val (.int (p3 &&& (3 : Int32))), .val (.ref b77), .val (.int (0 : Int32))]) rfl ?_
                show Steps p.tables e below (T134.setTop (mkF m 249 #[.val (.int p0), .val (.int p1), .val (.int p2), .val (.int p3), .val (.int s1), .val (.int s2), .val (.int li1), .val (.int lv1), .val (.int li2), .val (.int lv2), .val (.int q2), .val (.ref b20), .val (.int (p3 &&& (3 : Int32))), .val (.ref b77), .val (.int (0 : Int32))] [])) _
                exact kt
              rw [if_pos hc110, if_neg hc113, if_pos hc135] at hE
              have K137 : ∀ t, Steps p.tables e below (T134.setTop (mkF m 253 #[.val (.int p0), .val (.int p1), .val (.int p2), .val (.int p3), .val (.int s1), .val (.int s2), .val (.int li1), .val (.int lv1), .val (.int li2), .val (.int lv2), .val (.int q2), .val (.ref b20), .val (.int (p3 &&& (3 : Int32))), .val (.ref b77), .val (.int (0 : Int32))] [(.ref b77), (.ref b20)])) t → Steps p.tables e below G0 t := by
                intro t kt
                refine K136 t ?_
                refine XS.aload X134.here hx rfl (hb hby at_249) rfl rfl ?_
                show Steps p.tables e below (T134.setTop (mkF m 251 #[.val (.int p0), .val (.int p1), .val (.int p2), .val (.int p3), .val (.int s1), .val (.int s2), .val (.int li1), .val (.int lv1), .val (.int li2), .val (.int lv2), .val (.int q2), .val (.ref b20), .val (.int (p3 &&& (3 : Int32))), .val (.ref b77), .val (.int (0 : Int32))] [(.ref b20)])) _
                refine XS.aload X134.here hx rfl (hb hby at_251) rfl rfl ?_
                show Steps p.tables e below (T134.setTop (mkF m 253 #[.val (.int p0), .val (.int p1), .val (.int p2), .val (.int p3), .val (.int s1), .val (.int s2), .val (.int li1), .val (.int lv1), .val (.int li2), .val (.int lv2), .val (.int q2), .val (.ref b20), .val (.int (p3 &&& (3 : Int32))), .val (.ref b77), .val (.int (0 : Int32))] [(.ref b77), (.ref b20)])) _
                exact kt
              have f138 := (f97.keep KV102 (fun x hx => by cases List.mem_singleton.mp hx; exact gn77))
              have f139 := (((((FK045.ext E77).keep KV80 (fun q => nomatch q)).keep KV87 (fun q => nomatch q)).keep KV91 (fun q => nomatch q)).keep KV102 (fun q => ne_b20_b77 (List.mem_singleton.mp q)))
              have f140 := (((((FK145.ext E77).keep KV80 (fun q => nomatch q)).keep KV87 (fun q => nomatch q)).keep KV91 (fun q => nomatch q)).keep KV102 (fun q => ne_b20_b77 (List.mem_singleton.mp q)))
              have f141 := (((((FK245.ext E77).keep KV80 (fun q => nomatch q)).keep KV87 (fun q => nomatch q)).keep KV91 (fun q => nomatch q)).keep KV102 (fun q => ne_b20_b77 (List.mem_singleton.mp q)))
              have KQ142_0 := Keep.refl T45.heap []
              have sz142_77 := Nat.le_trans KQ142_0.1 (Nat.le_of_eq g77.symm)
              have KQ142_1 := KQ142_0.ext E77
              have KQ142_2 := KQ142_1.trans KV80 (fun x hx => nomatch hx)
              have KQ142_3 := KQ142_2.trans KV87 (fun x hx => nomatch hx)
              have KQ142_4 := KQ142_3.trans KV91 (fun x hx => nomatch hx)
              have KQ142_5 := KQ142_4.trans KV102 (fun x hx => by simp only [List.mem_cons, List.not_mem_nil, or_false] at hx; rcases hx with rfl <;> first | exact (Or.inr sz142_77))
              have s143 := own_Str.keep0 s47 KQ142_5
              have KQ144_0 := Keep.refl T45.heap []
              have sz144_77 := Nat.le_trans KQ144_0.1 (Nat.le_of_eq g77.symm)
              have KQ144_1 := KQ144_0.ext E77
              have KQ144_2 := KQ144_1.trans KV80 (fun x hx => nomatch hx)
              have KQ144_3 := KQ144_2.trans KV87 (fun x hx => nomatch hx)
              have KQ144_4 := KQ144_3.trans KV91 (fun x hx => nomatch hx)
              have KQ144_5 := KQ144_4.trans KV102 (fun x hx => by simp only [List.mem_cons, List.not_mem_nil, or_false] at hx; rcases hx with rfl <;> first | exact (Or.inr sz144_77))
              have s145 := own_Str.keep0 s49 KQ144_5
              have KQ146_0 := Keep.refl T45.heap []
              have sz146_77 := Nat.le_trans KQ146_0.1 (Nat.le_of_eq g77.symm)
              have KQ146_1 := KQ146_0.ext E77
              have KQ146_2 := KQ146_1.trans KV80 (fun x hx => nomatch hx)
              have KQ146_3 := KQ146_2.trans KV87 (fun x hx => nomatch hx)
              have KQ146_4 := KQ146_3.trans KV91 (fun x hx => nomatch hx)
              have KQ146_5 := KQ146_4.trans KV102 (fun x hx => by simp only [List.mem_cons, List.not_mem_nil, or_false] at hx; rcases hx with rfl <;> first | exact (Or.inr sz146_77))
              have s147 := own_Str.keep0 s51 KQ146_5
              have f148 := (((((EX45.ext E77).keep KV80).keep KV87).keep KV91).keep KV102)
              obtain ⟨cq149, kq149, q149a, q149b, q149c⟩ := isOf hZ102 e134 f148
              obtain ⟨v150, _, ⟨T150, L150, k150, n150⟩, -, X150, ⟨Lc150, hQ150, l150, y150, z150⟩, st150⟩ := X134.virtualBack hx (y := (⟨"com/example/lichen/lichen/model/PolicyIdentifier", "equals", "(Ljava/lang/Object;)Z"⟩ : MethodName)) (z := (⟨"com/example/lichen/lichen/model/PolicyIdentifier", "equals", "(Ljava/lang/Object;)Z"⟩ : MethodName)) hown102 (mvT hZ102 (hw _ (List.mem_of_getElem? (i := 74) rfl))) (mvT hZ102 (hw _ (List.mem_of_getElem? (i := 75) rfl))) (notFace_of_selects (args := #[]) (mvT hZ102 (hw _ (List.mem_of_getElem? (i := 77) rfl)))) (mvT hZ102 (hw _ (List.mem_of_getElem? (i := 77) rfl))) (mvT hZ102 (hw _ (List.mem_of_getElem? (i := 76) rfl))) (by decide) (backOf (W := 0) (rm14 l Z aa hw [] (b20) (b77) r23 r30 r34 r80 r87 r91 (own_kind s1) (own_str p1 li1) (own_str ((p1.toUInt32 >>> ((16 : Int32) &&& 31).toUInt32).toInt32) lv1) (own_kind s2) (own_str q2 li2) (own_str ((q2.toUInt32 >>> ((16 : Int32) &&& 31).toUInt32).toInt32) lv2) G1 T102.heap n0 Z102 O2 P5 f138 f139 f140 f141 s143 s145 s147 FK0102 FK1102 FK2102 s104 s106 s108 EX102) hZ102 (hw _ (List.mem_of_getElem? (i := 78) rfl)) (hw _ (List.mem_of_getElem? (i := 2) rfl)) (by decide) (by decide)) q149a q149c (g := (mkF m 253 #[.val (.int p0), .val (.int p1), .val (.int p2), .val (.int p3), .val (.int s1), .val (.int s2), .val (.int li1), .val (.int lv1), .val (.int li2), .val (.int lv2), .val (.int q2), .val (.ref b20), .val (.int (p3 &&& (3 : Int32))), .val (.ref b77), .val (.int (0 : Int32))] [(.ref b77), (.ref b20)])) rfl (by rw [hml]; rfl) (Steps.refl _) (argsL := [(.ref b77)]) (rest := []) (lenOf pd_PLjava_lang_Object_QZ rfl) rfl (by show 2 * 0 + _ ≤ _; exact Nat.le_of_eq rfl) (hb hby at_253) (fun _ _ => ⟨rfl, e134, (by decide : 48 + 0 ≤ _), (by decide : 322 + 0 ≤ _)⟩)
              dsimp only [Pt.U, Pt.locs, Pt.cells, Pt.slots] at X150 l150 y150 z150 st150 hQ150
              subst l150 y150 z150
              obtain ⟨rfl, N150q, e150⟩ := hQ150
              have N150 := Fr.app N134 N150q
              have K150 : ∀ t, Steps p.tables e below (T150.setTop (mkF m 256 #[.val (.int p0), .val (.int p1), .val (.int p2), .val (.int p3), .val (.int s1), .val (.int s2), .val (.int li1), .val (.int lv1), .val (.int li2), .val (.int lv2), .val (.int q2), .val (.ref b20), .val (.int (p3 &&& (3 : Int32))), .val (.ref b77), .val (.int (0 : Int32))] [(.int (own_e (own_kind s1) (own_kind s2) (own_str p1 li1) (own_str q2 li2) (own_str ((p1.toUInt32 >>> ((16 : Int32) &&& 31).toUInt32).toInt32) lv1) (own_str ((q2.toUInt32 >>> ((16 : Int32) &&& 31).toUInt32).toInt32) lv2)))])) t → Steps p.tables e below G0 t := fun t kt => K137 t (st150.trans kt)
              have K151 : ∀ t, Steps p.tables e below (T150.setTop (mkF m 265 #[.val (.int p0), .val (.int p1), .val (.int p2), .val (.int p3), .val (.int s1), .val (.int s2), .val (.int li1), .val (.int lv1), .val (.int li2), .val (.int lv2), .val (.int q2), .val (.ref b20), .val (.int (p3 &&& (3 : Int32))), .val (.ref b77), .val (.int (0 : Int32))] [(.ref b20), (.ref b77)])) t → Steps p.tables e below G0 t := by
                intro t kt
                refine K150 t ?_
                refine XS.iload X150.here hx rfl (hb hby at_256) rfl ?_
                show Steps p.tables e below (T150.setTop (mkF m 258 #[.val (.int p0), .val (.int p1), .val (.int p2), .val (.int p3), .val (.int s1), .val (.int s2), .val (.int li1), .val (.int lv1), .val (.int li2), .val (.int lv2), .val (.int q2), .val (.ref b20), .val (.int (p3 &&& (3 : Int32))), .val (.ref b77), .val (.int (0 : Int32))] [(.int (0 : Int32)), (.int (own_e (own_kind s1) (own_kind s2) (own_str p1 li1) (own_str q2 li2) (own_str ((p1.toUInt32 >>> ((16 : Int32) &&& 31).toUInt32).toInt32) lv1) (own_str ((q2.toUInt32 >>> ((16 : Int32) &&& 31).toUInt32).toInt32) lv2)))])) _
                refine XS.icmpNo X150.here hx rfl (hb hby at_258) rfl (teq hE).2 ?_
                show Steps p.tables e below (T150.setTop (mkF m 261 #[.val (.int p0), .val (.int p1), .val (.int p2), .val (.int p3), .val (.int s1), .val (.int s2), .val (.int li1), .val (.int lv1), .val (.int li2), .val (.int lv2), .val (.int q2), .val (.ref b20), .val (.int (p3 &&& (3 : Int32))), .val (.ref b77), .val (.int (0 : Int32))] [])) _
                refine XS.aload X150.here hx rfl (hb hby at_261) rfl rfl ?_
                show Steps p.tables e below (T150.setTop (mkF m 263 #[.val (.int p0), .val (.int p1), .val (.int p2), .val (.int p3), .val (.int s1), .val (.int s2), .val (.int li1), .val (.int lv1), .val (.int li2), .val (.int lv2), .val (.int q2), .val (.ref b20), .val (.int (p3 &&& (3 : Int32))), .val (.ref b77), .val (.int (0 : Int32))] [(.ref b77)])) _
                refine XS.aload X150.here hx rfl (hb hby at_263) rfl rfl ?_
                show Steps p.tables e below (T150.setTop (mkF m 265 #[.val (.int p0), .val (.int p1), .val (.int p2), .val (.int p3), .val (.int s1), .val (.int s2), .val (.int li1), .val (.int lv1), .val (.int li2), .val (.int lv2), .val (.int q2), .val (.ref b20), .val (.int (p3 &&& (3 : Int32))), .val (.ref b77), .val (.int (0 : Int32))] [(.ref b20), (.ref b77)])) _
                exact kt
              obtain ⟨cq152, kq152, q152a, q152b, q152c⟩ := isOf hZ102 e150 EX102
              obtain ⟨v153, _, ⟨T153, L153, k153, n153⟩, -, X153, ⟨Lc153, hQ153, l153, y153, z153⟩, st153⟩ := X150.virtualBack hx (y := (⟨"com/example/lichen/lichen/model/PolicyIdentifier", "equals", "(Ljava/lang/Object;)Z"⟩ : MethodName)) (z := (⟨"com/example/lichen/lichen/model/PolicyIdentifier", "equals", "(Ljava/lang/Object;)Z"⟩ : MethodName)) hown102 (mvT hZ102 (hw _ (List.mem_of_getElem? (i := 74) rfl))) (mvT hZ102 (hw _ (List.mem_of_getElem? (i := 75) rfl))) (notFace_of_selects (args := #[]) (mvT hZ102 (hw _ (List.mem_of_getElem? (i := 77) rfl)))) (mvT hZ102 (hw _ (List.mem_of_getElem? (i := 77) rfl))) (mvT hZ102 (hw _ (List.mem_of_getElem? (i := 76) rfl))) (by decide) (backOf (W := 0) (rm14 l Z aa hw [] (b77) (b20) r80 r87 r91 r23 r30 r34 (own_kind s2) (own_str q2 li2) (own_str ((q2.toUInt32 >>> ((16 : Int32) &&& 31).toUInt32).toInt32) lv2) (own_kind s1) (own_str p1 li1) (own_str ((p1.toUInt32 >>> ((16 : Int32) &&& 31).toUInt32).toInt32) lv1) G1 T102.heap n0 Z102 O2 P5 f138 FK0102 FK1102 FK2102 s104 s106 s108 f139 f140 f141 s143 s145 s147 f148) hZ102 (hw _ (List.mem_of_getElem? (i := 78) rfl)) (hw _ (List.mem_of_getElem? (i := 2) rfl)) (by decide) (by decide)) q152a q152c (g := (mkF m 265 #[.val (.int p0), .val (.int p1), .val (.int p2), .val (.int p3), .val (.int s1), .val (.int s2), .val (.int li1), .val (.int lv1), .val (.int li2), .val (.int lv2), .val (.int q2), .val (.ref b20), .val (.int (p3 &&& (3 : Int32))), .val (.ref b77), .val (.int (0 : Int32))] [(.ref b20), (.ref b77)])) rfl (by rw [hml]; rfl) (Steps.refl _) (argsL := [(.ref b20)]) (rest := []) (lenOf pd_PLjava_lang_Object_QZ rfl) rfl (by show 2 * 0 + _ ≤ _; exact Nat.le_of_eq rfl) (hb hby at_265) (fun _ _ => ⟨rfl, e150, (by decide : 48 + 0 ≤ _), (by decide : 322 + 0 ≤ _)⟩)
              dsimp only [Pt.U, Pt.locs, Pt.cells, Pt.slots] at X153 l153 y153 z153 st153 hQ153
              subst l153 y153 z153
              obtain ⟨rfl, N153q, e153⟩ := hQ153
              have N153 := Fr.app N150 N153q
              have K153 : ∀ t, Steps p.tables e below (T153.setTop (mkF m 268 #[.val (.int p0), .val (.int p1), .val (.int p2), .val (.int p3), .val (.int s1), .val (.int s2), .val (.int li1), .val (.int lv1), .val (.int li2), .val (.int lv2), .val (.int q2), .val (.ref b20), .val (.int (p3 &&& (3 : Int32))), .val (.ref b77), .val (.int (0 : Int32))] [(.int (own_e (own_kind s2) (own_kind s1) (own_str q2 li2) (own_str p1 li1) (own_str ((q2.toUInt32 >>> ((16 : Int32) &&& 31).toUInt32).toInt32) lv2) (own_str ((p1.toUInt32 >>> ((16 : Int32) &&& 31).toUInt32).toInt32) lv1)))])) t → Steps p.tables e below G0 t := fun t kt => K151 t (st153.trans kt)
              have K154 : ∀ t, Steps p.tables e below (T153.setTop (mkF m 278 #[.val (.int p0), .val (.int p1), .val (.int p2), .val (.int p3), .val (.int s1), .val (.int s2), .val (.int li1), .val (.int lv1), .val (.int li2), .val (.int lv2), .val (.int q2), .val (.ref b20), .val (.int (p3 &&& (3 : Int32))), .val (.ref b77), .val (.int (0 : Int32))] [(.int (1 : Int32))])) t → Steps p.tables e below G0 t := by
                intro t kt
                refine K153 t ?_
                refine XS.iload X153.here hx rfl (hb hby at_268) rfl ?_
                show Steps p.tables e below (T153.setTop (mkF m 270 #[.val (.int p0), .val (.int p1), .val (.int p2), .val (.int p3), .val (.int s1), .val (.int s2), .val (.int li1), .val (.int lv1), .val (.int li2), .val (.int lv2), .val (.int q2), .val (.ref b20), .val (.int (p3 &&& (3 : Int32))), .val (.ref b77), .val (.int (0 : Int32))] [(.int (0 : Int32)), (.int (own_e (own_kind s2) (own_kind s1) (own_str q2 li2) (own_str p1 li1) (own_str ((q2.toUInt32 >>> ((16 : Int32) &&& 31).toUInt32).toInt32) lv2) (own_str ((p1.toUInt32 >>> ((16 : Int32) &&& 31).toUInt32).toInt32) lv1)))])) _
                refine XS.icmpNo X153.here hx rfl (hb hby at_270) rfl (teq ((own_ec _ _ _ _ _ _).trans hE)).2 ?_
                show Steps p.tables e below (T153.setTop (mkF m 273 #[.val (.int p0), .val (.int p1), .val (.int p2), .val (.int p3), .val (.int s1), .val (.int s2), .val (.int li1), .val (.int lv1), .val (.int li2), .val (.int lv2), .val (.int q2), .val (.ref b20), .val (.int (p3 &&& (3 : Int32))), .val (.ref b77), .val (.int (0 : Int32))] [])) _
                refine XS.iconst X153.here hx rfl (hb hby at_273) ?_
                show Steps p.tables e below (T153.setTop (mkF m 274 #[.val (.int p0), .val (.int p1), .val (.int p2), .val (.int p3), .val (.int s1), .val (.int s2), .val (.int li1), .val (.int lv1), .val (.int li2), .val (.int lv2), .val (.int q2), .val (.ref b20), .val (.int (p3 &&& (3 : Int32))), .val (.ref b77), .val (.int (0 : Int32))] [(.int (1 : Int32))])) _
                refine XS.goto X153.here hx rfl (pc0 := 274) (pc' := 278) rfl (hb hby at_274) (by decide) (by decide) ?_
                show Steps p.tables e below (T153.setTop (mkF m 278 #[.val (.int p0), .val (.int p1), .val (.int p2), .val (.int p3), .val (.int s1), .val (.int s2), .val (.int li1), .val (.int lv1), .val (.int li2), .val (.int lv2), .val (.int q2), .val (.ref b20), .val (.int (p3 &&& (3 : Int32))), .val (.ref b77), .val (.int (0 : Int32))] [(.int (1 : Int32))])) _
                exact kt
              obtain ⟨fs, hr, hrun, hended, hREW⟩ := X153.leaveW hS102 (by rw [e153]; exact hk102) (v := some (.int (1 : Int32))) (fun h => by rw [Bd.returns] at h; cases h)
              have CHE := CH102.trans (CHv.at X153 hZ102 hEL CH102.1)
              refine ⟨_, _, ?_, hrun, hended, _, _, rfl, ?_, ?_, hREW.1, hREW.2.1, hREW.2.2.1, hREW.2.2.2.mono (by decide) (by decide)⟩
              · rw [← hG0]
                refine K154 _ ?_
                exact retN X153 hx (t := .boolean) Bd.returns (by simp) (hb hby at_278) hr
              · show Q0 Z p0 p1 p2 p3 G1 h0 n0 _ T153.heap _
                rw [e153]
                exact ⟨rfl, N153⟩
              · rw [hh]
                show CHr Z consts_1 s.vm h0 T153.vm T153.heap
                rw [e153]
                exact CHE
            ·
              have K155 : ∀ t, Steps p.tables e below (T134.setTop (mkF m 249 #[.val (.int p0), .val (.int p1), .val (.int p2), .val (.int p3), .val (.int s1), .val (.int s2), .val (.int li1), .val (.int lv1), .val (.int li2), .val (.int lv2), .val (.int q2), .val (.ref b20), .val (.int (p3 &&& (3 : Int32))), .val (.ref b77), .val (.int (1 : Int32))] [])) t → Steps p.tables e below G0 t := by
                intro t kt
                refine K134 t ?_
                refine XS.ifNo X134.here hx rfl (hb hby at_239) rfl ((if0 _ _).trans (feq hc135).1) ?_
                show Steps p.tables e below (T134.setTop (mkF m 242 #[.val (.int p0), .val (.int p1), .val (.int p2), .val (.int p3), .val (.int s1), .val (.int s2), .val (.int li1), .val (.int lv1), .val (.int li2), .val (.int lv2), .val (.int q2), .val (.ref b20), .val (.int (p3 &&& (3 : Int32))), .val (.ref b77), .unset] [])) _
                refine XS.iconst X134.here hx rfl (hb hby at_242) ?_
                show Steps p.tables e below (T134.setTop (mkF m 243 #[.val (.int p0), .val (.int p1), .val (.int p2), .val (.int p3), .val (.int s1), .val (.int s2), .val (.int li1), .val (.int lv1), .val (.int li2), .val (.int lv2), .val (.int q2), .val (.ref b20), .val (.int (p3 &&& (3 : Int32))), .val (.ref b77), .unset] [(.int (1 : Int32))])) _
                refine XS.goto X134.here hx rfl (pc0 := 243) (pc' := 247) rfl (hb hby at_243) (by decide) (by decide) ?_
                show Steps p.tables e below (T134.setTop (mkF m 247 #[.val (.int p0), .val (.int p1), .val (.int p2), .val (.int p3), .val (.int s1), .val (.int s2), .val (.int li1), .val (.int lv1), .val (.int li2), .val (.int lv2), .val (.int q2), .val (.ref b20), .val (.int (p3 &&& (3 : Int32))), .val (.ref b77), .unset] [(.int (1 : Int32))])) _
                refine XS.istore X134.here hx rfl (hb hby at_247) rfl (l' := #[.val (.int p0), .val (.int p1), .val (.int p2), .val (.int p3), .val (.int s1), .val (.int s2), .val (.int li1), .val (.int lv1), .val (.int li2), .val (.int lv2), .val (.int q2), .val (.ref b20), .val (.int (p3 &&& (3 : Int32))), .val (.ref b77), .val (.int (1 : Int32))]) rfl ?_
                show Steps p.tables e below (T134.setTop (mkF m 249 #[.val (.int p0), .val (.int p1), .val (.int p2), .val (.int p3), .val (.int s1), .val (.int s2), .val (.int li1), .val (.int lv1), .val (.int li2), .val (.int lv2), .val (.int q2), .val (.ref b20), .val (.int (p3 &&& (3 : Int32))), .val (.ref b77), .val (.int (1 : Int32))] [])) _
                exact kt
              rw [if_pos hc110, if_neg hc113, if_neg hc135] at hE
              have K156 : ∀ t, Steps p.tables e below (T134.setTop (mkF m 253 #[.val (.int p0), .val (.int p1), .val (.int p2), .val (.int p3), .val (.int s1), .val (.int s2), .val (.int li1), .val (.int lv1), .val (.int li2), .val (.int lv2), .val (.int q2), .val (.ref b20), .val (.int (p3 &&& (3 : Int32))), .val (.ref b77), .val (.int (1 : Int32))] [(.ref b77), (.ref b20)])) t → Steps p.tables e below G0 t := by
                intro t kt
                refine K155 t ?_
                refine XS.aload X134.here hx rfl (hb hby at_249) rfl rfl ?_
                show Steps p.tables e below (T134.setTop (mkF m 251 #[.val (.int p0), .val (.int p1), .val (.int p2), .val (.int p3), .val (.int s1), .val (.int s2), .val (.int li1), .val (.int lv1), .val (.int li2), .val (.int lv2), .val (.int q2), .val (.ref b20), .val (.int (p3 &&& (3 : Int32))), .val (.ref b77), .val (.int (1 : Int32))] [(.ref b20)])) _
                refine XS.aload X134.here hx rfl (hb hby at_251) rfl rfl ?_
                show Steps p.tables e below (T134.setTop (mkF m 253 #[.val (.int p0), .val (.int p1), .val (.int p2), .val (.int p3), .val (.int s1), .val (.int s2), .val (.int li1), .val (.int lv1), .val (.int li2), .val (.int lv2), .val (.int q2), .val (.ref b20), .val (.int (p3 &&& (3 : Int32))), .val (.ref b77), .val (.int (1 : Int32))] [(.ref b77), (.ref b20)])) _
                exact kt
              have f157 := (f97.keep KV102 (fun x hx => by cases List.mem_singleton.mp hx; exact gn77))
              have f158 := (((((FK045.ext E77).keep KV80 (fun q => nomatch q)).keep KV87 (fun q => nomatch q)).keep KV91 (fun q => nomatch q)).keep KV102 (fun q => ne_b20_b77 (List.mem_singleton.mp q)))
              have f159 := (((((FK145.ext E77).keep KV80 (fun q => nomatch q)).keep KV87 (fun q => nomatch q)).keep KV91 (fun q => nomatch q)).keep KV102 (fun q => ne_b20_b77 (List.mem_singleton.mp q)))
              have f160 := (((((FK245.ext E77).keep KV80 (fun q => nomatch q)).keep KV87 (fun q => nomatch q)).keep KV91 (fun q => nomatch q)).keep KV102 (fun q => ne_b20_b77 (List.mem_singleton.mp q)))
              have KQ161_0 := Keep.refl T45.heap []
              have sz161_77 := Nat.le_trans KQ161_0.1 (Nat.le_of_eq g77.symm)
              have KQ161_1 := KQ161_0.ext E77
              have KQ161_2 := KQ161_1.trans KV80 (fun x hx => nomatch hx)
              have KQ161_3 := KQ161_2.trans KV87 (fun x hx => nomatch hx)
              have KQ161_4 := KQ161_3.trans KV91 (fun x hx => nomatch hx)
              have KQ161_5 := KQ161_4.trans KV102 (fun x hx => by simp only [List.mem_cons, List.not_mem_nil, or_false] at hx; rcases hx with rfl <;> first | exact (Or.inr sz161_77))
              have s162 := own_Str.keep0 s47 KQ161_5
              have KQ163_0 := Keep.refl T45.heap []
              have sz163_77 := Nat.le_trans KQ163_0.1 (Nat.le_of_eq g77.symm)
              have KQ163_1 := KQ163_0.ext E77
              have KQ163_2 := KQ163_1.trans KV80 (fun x hx => nomatch hx)
              have KQ163_3 := KQ163_2.trans KV87 (fun x hx => nomatch hx)
              have KQ163_4 := KQ163_3.trans KV91 (fun x hx => nomatch hx)
              have KQ163_5 := KQ163_4.trans KV102 (fun x hx => by simp only [List.mem_cons, List.not_mem_nil, or_false] at hx; rcases hx with rfl <;> first | exact (Or.inr sz163_77))
              have s164 := own_Str.keep0 s49 KQ163_5
              have KQ165_0 := Keep.refl T45.heap []
              have sz165_77 := Nat.le_trans KQ165_0.1 (Nat.le_of_eq g77.symm)
              have KQ165_1 := KQ165_0.ext E77
              have KQ165_2 := KQ165_1.trans KV80 (fun x hx => nomatch hx)
              have KQ165_3 := KQ165_2.trans KV87 (fun x hx => nomatch hx)
              have KQ165_4 := KQ165_3.trans KV91 (fun x hx => nomatch hx)
              have KQ165_5 := KQ165_4.trans KV102 (fun x hx => by simp only [List.mem_cons, List.not_mem_nil, or_false] at hx; rcases hx with rfl <;> first | exact (Or.inr sz165_77))
              have s166 := own_Str.keep0 s51 KQ165_5
              have f167 := (((((EX45.ext E77).keep KV80).keep KV87).keep KV91).keep KV102)
              obtain ⟨cq168, kq168, q168a, q168b, q168c⟩ := isOf hZ102 e134 f167
              obtain ⟨v169, _, ⟨T169, L169, k169, n169⟩, -, X169, ⟨Lc169, hQ169, l169, y169, z169⟩, st169⟩ := X134.virtualBack hx (y := (⟨"com/example/lichen/lichen/model/PolicyIdentifier", "equals", "(Ljava/lang/Object;)Z"⟩ : MethodName)) (z := (⟨"com/example/lichen/lichen/model/PolicyIdentifier", "equals", "(Ljava/lang/Object;)Z"⟩ : MethodName)) hown102 (mvT hZ102 (hw _ (List.mem_of_getElem? (i := 74) rfl))) (mvT hZ102 (hw _ (List.mem_of_getElem? (i := 75) rfl))) (notFace_of_selects (args := #[]) (mvT hZ102 (hw _ (List.mem_of_getElem? (i := 77) rfl)))) (mvT hZ102 (hw _ (List.mem_of_getElem? (i := 77) rfl))) (mvT hZ102 (hw _ (List.mem_of_getElem? (i := 76) rfl))) (by decide) (backOf (W := 0) (rm14 l Z aa hw [] (b20) (b77) r23 r30 r34 r80 r87 r91 (own_kind s1) (own_str p1 li1) (own_str ((p1.toUInt32 >>> ((16 : Int32) &&& 31).toUInt32).toInt32) lv1) (own_kind s2) (own_str q2 li2) (own_str ((q2.toUInt32 >>> ((16 : Int32) &&& 31).toUInt32).toInt32) lv2) G1 T102.heap n0 Z102 O2 P5 f157 f158 f159 f160 s162 s164 s166 FK0102 FK1102 FK2102 s104 s106 s108 EX102) hZ102 (hw _ (List.mem_of_getElem? (i := 78) rfl)) (hw _ (List.mem_of_getElem? (i := 2) rfl)) (by decide) (by decide)) q168a q168c (g := (mkF m 253 #[.val (.int p0), .val (.int p1), .val (.int p2), .val (.int p3), .val (.int s1), .val (.int s2), .val (.int li1), .val (.int lv1), .val (.int li2), .val (.int lv2), .val (.int q2), .val (.ref b20), .val (.int (p3 &&& (3 : Int32))), .val (.ref b77), .val (.int (1 : Int32))] [(.ref b77), (.ref b20)])) rfl (by rw [hml]; rfl) (Steps.refl _) (argsL := [(.ref b77)]) (rest := []) (lenOf pd_PLjava_lang_Object_QZ rfl) rfl (by show 2 * 0 + _ ≤ _; exact Nat.le_of_eq rfl) (hb hby at_253) (fun _ _ => ⟨rfl, e134, (by decide : 48 + 0 ≤ _), (by decide : 322 + 0 ≤ _)⟩)
              dsimp only [Pt.U, Pt.locs, Pt.cells, Pt.slots] at X169 l169 y169 z169 st169 hQ169
              subst l169 y169 z169
              obtain ⟨rfl, N169q, e169⟩ := hQ169
              have N169 := Fr.app N134 N169q
              have K169 : ∀ t, Steps p.tables e below (T169.setTop (mkF m 256 #[.val (.int p0), .val (.int p1), .val (.int p2), .val (.int p3), .val (.int s1), .val (.int s2), .val (.int li1), .val (.int lv1), .val (.int li2), .val (.int lv2), .val (.int q2), .val (.ref b20), .val (.int (p3 &&& (3 : Int32))), .val (.ref b77), .val (.int (1 : Int32))] [(.int (own_e (own_kind s1) (own_kind s2) (own_str p1 li1) (own_str q2 li2) (own_str ((p1.toUInt32 >>> ((16 : Int32) &&& 31).toUInt32).toInt32) lv1) (own_str ((q2.toUInt32 >>> ((16 : Int32) &&& 31).toUInt32).toInt32) lv2)))])) t → Steps p.tables e below G0 t := fun t kt => K156 t (st169.trans kt)
              have K170 : ∀ t, Steps p.tables e below (T169.setTop (mkF m 265 #[.val (.int p0), .val (.int p1), .val (.int p2), .val (.int p3), .val (.int s1), .val (.int s2), .val (.int li1), .val (.int lv1), .val (.int li2), .val (.int lv2), .val (.int q2), .val (.ref b20), .val (.int (p3 &&& (3 : Int32))), .val (.ref b77), .val (.int (1 : Int32))] [(.ref b20), (.ref b77)])) t → Steps p.tables e below G0 t := by
                intro t kt
                refine K169 t ?_
                refine XS.iload X169.here hx rfl (hb hby at_256) rfl ?_
                show Steps p.tables e below (T169.setTop (mkF m 258 #[.val (.int p0), .val (.int p1), .val (.int p2), .val (.int p3), .val (.int s1), .val (.int s2), .val (.int li1), .val (.int lv1), .val (.int li2), .val (.int lv2), .val (.int q2), .val (.ref b20), .val (.int (p3 &&& (3 : Int32))), .val (.ref b77), .val (.int (1 : Int32))] [(.int (1 : Int32)), (.int (own_e (own_kind s1) (own_kind s2) (own_str p1 li1) (own_str q2 li2) (own_str ((p1.toUInt32 >>> ((16 : Int32) &&& 31).toUInt32).toInt32) lv1) (own_str ((q2.toUInt32 >>> ((16 : Int32) &&& 31).toUInt32).toInt32) lv2)))])) _
                refine XS.icmpNo X169.here hx rfl (hb hby at_258) rfl (teq hE).2 ?_
                show Steps p.tables e below (T169.setTop (mkF m 261 #[.val (.int p0), .val (.int p1), .val (.int p2), .val (.int p3), .val (.int s1), .val (.int s2), .val (.int li1), .val (.int lv1), .val (.int li2), .val (.int lv2), .val (.int q2), .val (.ref b20), .val (.int (p3 &&& (3 : Int32))), .val (.ref b77), .val (.int (1 : Int32))] [])) _
                refine XS.aload X169.here hx rfl (hb hby at_261) rfl rfl ?_
                show Steps p.tables e below (T169.setTop (mkF m 263 #[.val (.int p0), .val (.int p1), .val (.int p2), .val (.int p3), .val (.int s1), .val (.int s2), .val (.int li1), .val (.int lv1), .val (.int li2), .val (.int lv2), .val (.int q2), .val (.ref b20), .val (.int (p3 &&& (3 : Int32))), .val (.ref b77), .val (.int (1 : Int32))] [(.ref b77)])) _
                refine XS.aload X169.here hx rfl (hb hby at_263) rfl rfl ?_
                show Steps p.tables e below (T169.setTop (mkF m 265 #[.val (.int p0), .val (.int p1), .val (.int p2), .val (.int p3), .val (.int s1), .val (.int s2), .val (.int li1), .val (.int lv1), .val (.int li2), .val (.int lv2), .val (.int q2), .val (.ref b20), .val (.int (p3 &&& (3 : Int32))), .val (.ref b77), .val (.int (1 : Int32))] [(.ref b20), (.ref b77)])) _
                exact kt
              obtain ⟨cq171, kq171, q171a, q171b, q171c⟩ := isOf hZ102 e169 EX102
              obtain ⟨v172, _, ⟨T172, L172, k172, n172⟩, -, X172, ⟨Lc172, hQ172, l172, y172, z172⟩, st172⟩ := X169.virtualBack hx (y := (⟨"com/example/lichen/lichen/model/PolicyIdentifier", "equals", "(Ljava/lang/Object;)Z"⟩ : MethodName)) (z := (⟨"com/example/lichen/lichen/model/PolicyIdentifier", "equals", "(Ljava/lang/Object;)Z"⟩ : MethodName)) hown102 (mvT hZ102 (hw _ (List.mem_of_getElem? (i := 74) rfl))) (mvT hZ102 (hw _ (List.mem_of_getElem? (i := 75) rfl))) (notFace_of_selects (args := #[]) (mvT hZ102 (hw _ (List.mem_of_getElem? (i := 77) rfl)))) (mvT hZ102 (hw _ (List.mem_of_getElem? (i := 77) rfl))) (mvT hZ102 (hw _ (List.mem_of_getElem? (i := 76) rfl))) (by decide) (backOf (W := 0) (rm14 l Z aa hw [] (b77) (b20) r80 r87 r91 r23 r30 r34 (own_kind s2) (own_str q2 li2) (own_str ((q2.toUInt32 >>> ((16 : Int32) &&& 31).toUInt32).toInt32) lv2) (own_kind s1) (own_str p1 li1) (own_str ((p1.toUInt32 >>> ((16 : Int32) &&& 31).toUInt32).toInt32) lv1) G1 T102.heap n0 Z102 O2 P5 f157 FK0102 FK1102 FK2102 s104 s106 s108 f158 f159 f160 s162 s164 s166 f167) hZ102 (hw _ (List.mem_of_getElem? (i := 78) rfl)) (hw _ (List.mem_of_getElem? (i := 2) rfl)) (by decide) (by decide)) q171a q171c (g := (mkF m 265 #[.val (.int p0), .val (.int p1), .val (.int p2), .val (.int p3), .val (.int s1), .val (.int s2), .val (.int li1), .val (.int lv1), .val (.int li2), .val (.int lv2), .val (.int q2), .val (.ref b20), .val (.int (p3 &&& (3 : Int32))), .val (.ref b77), .val (.int (1 : Int32))] [(.ref b20), (.ref b77)])) rfl (by rw [hml]; rfl) (Steps.refl _) (argsL := [(.ref b20)]) (rest := []) (lenOf pd_PLjava_lang_Object_QZ rfl) rfl (by show 2 * 0 + _ ≤ _; exact Nat.le_of_eq rfl) (hb hby at_265) (fun _ _ => ⟨rfl, e169, (by decide : 48 + 0 ≤ _), (by decide : 322 + 0 ≤ _)⟩)
              dsimp only [Pt.U, Pt.locs, Pt.cells, Pt.slots] at X172 l172 y172 z172 st172 hQ172
              subst l172 y172 z172
              obtain ⟨rfl, N172q, e172⟩ := hQ172
              have N172 := Fr.app N169 N172q
              have K172 : ∀ t, Steps p.tables e below (T172.setTop (mkF m 268 #[.val (.int p0), .val (.int p1), .val (.int p2), .val (.int p3), .val (.int s1), .val (.int s2), .val (.int li1), .val (.int lv1), .val (.int li2), .val (.int lv2), .val (.int q2), .val (.ref b20), .val (.int (p3 &&& (3 : Int32))), .val (.ref b77), .val (.int (1 : Int32))] [(.int (own_e (own_kind s2) (own_kind s1) (own_str q2 li2) (own_str p1 li1) (own_str ((q2.toUInt32 >>> ((16 : Int32) &&& 31).toUInt32).toInt32) lv2) (own_str ((p1.toUInt32 >>> ((16 : Int32) &&& 31).toUInt32).toInt32) lv1)))])) t → Steps p.tables e below G0 t := fun t kt => K170 t (st172.trans kt)
              have K173 : ∀ t, Steps p.tables e below (T172.setTop (mkF m 278 #[.val (.int p0), .val (.int p1), .val (.int p2), .val (.int p3), .val (.int s1), .val (.int s2), .val (.int li1), .val (.int lv1), .val (.int li2), .val (.int lv2), .val (.int q2), .val (.ref b20), .val (.int (p3 &&& (3 : Int32))), .val (.ref b77), .val (.int (1 : Int32))] [(.int (1 : Int32))])) t → Steps p.tables e below G0 t := by
                intro t kt
                refine K172 t ?_
                refine XS.iload X172.here hx rfl (hb hby at_268) rfl ?_
                show Steps p.tables e below (T172.setTop (mkF m 270 #[.val (.int p0), .val (.int p1), .val (.int p2), .val (.int p3), .val (.int s1), .val (.int s2), .val (.int li1), .val (.int lv1), .val (.int li2), .val (.int lv2), .val (.int q2), .val (.ref b20), .val (.int (p3 &&& (3 : Int32))), .val (.ref b77), .val (.int (1 : Int32))] [(.int (1 : Int32)), (.int (own_e (own_kind s2) (own_kind s1) (own_str q2 li2) (own_str p1 li1) (own_str ((q2.toUInt32 >>> ((16 : Int32) &&& 31).toUInt32).toInt32) lv2) (own_str ((p1.toUInt32 >>> ((16 : Int32) &&& 31).toUInt32).toInt32) lv1)))])) _
                refine XS.icmpNo X172.here hx rfl (hb hby at_270) rfl (teq ((own_ec _ _ _ _ _ _).trans hE)).2 ?_
                show Steps p.tables e below (T172.setTop (mkF m 273 #[.val (.int p0), .val (.int p1), .val (.int p2), .val (.int p3), .val (.int s1), .val (.int s2), .val (.int li1), .val (.int lv1), .val (.int li2), .val (.int lv2), .val (.int q2), .val (.ref b20), .val (.int (p3 &&& (3 : Int32))), .val (.ref b77), .val (.int (1 : Int32))] [])) _
                refine XS.iconst X172.here hx rfl (hb hby at_273) ?_
                show Steps p.tables e below (T172.setTop (mkF m 274 #[.val (.int p0), .val (.int p1), .val (.int p2), .val (.int p3), .val (.int s1), .val (.int s2), .val (.int li1), .val (.int lv1), .val (.int li2), .val (.int lv2), .val (.int q2), .val (.ref b20), .val (.int (p3 &&& (3 : Int32))), .val (.ref b77), .val (.int (1 : Int32))] [(.int (1 : Int32))])) _
                refine XS.goto X172.here hx rfl (pc0 := 274) (pc' := 278) rfl (hb hby at_274) (by decide) (by decide) ?_
                show Steps p.tables e below (T172.setTop (mkF m 278 #[.val (.int p0), .val (.int p1), .val (.int p2), .val (.int p3), .val (.int s1), .val (.int s2), .val (.int li1), .val (.int lv1), .val (.int li2), .val (.int lv2), .val (.int q2), .val (.ref b20), .val (.int (p3 &&& (3 : Int32))), .val (.ref b77), .val (.int (1 : Int32))] [(.int (1 : Int32))])) _
                exact kt
              obtain ⟨fs, hr, hrun, hended, hREW⟩ := X172.leaveW hS102 (by rw [e172]; exact hk102) (v := some (.int (1 : Int32))) (fun h => by rw [Bd.returns] at h; cases h)
              have CHE := CH102.trans (CHv.at X172 hZ102 hEL CH102.1)
              refine ⟨_, _, ?_, hrun, hended, _, _, rfl, ?_, ?_, hREW.1, hREW.2.1, hREW.2.2.1, hREW.2.2.2.mono (by decide) (by decide)⟩
              · rw [← hG0]
                refine K173 _ ?_
                exact retN X172 hx (t := .boolean) Bd.returns (by simp) (hb hby at_278) hr
              · show Q0 Z p0 p1 p2 p3 G1 h0 n0 _ T172.heap _
                rw [e172]
                exact ⟨rfl, N172⟩
              · rw [hh]
                show CHr Z consts_1 s.vm h0 T172.vm T172.heap
                rw [e172]
                exact CHE
        ·
          have K174 : ∀ t, Steps p.tables e below (T102.setTop (mkF m 249 #[.val (.int p0), .val (.int p1), .val (.int p2), .val (.int p3), .val (.int s1), .val (.int s2), .val (.int li1), .val (.int lv1), .val (.int li2), .val (.int lv2), .val (.int q2), .val (.ref b20), .val (.int (p3 &&& (3 : Int32))), .val (.ref b77), .val (.int (0 : Int32))] [])) t → Steps p.tables e below G0 t := by
            intro t kt
            refine K109 t ?_
            refine XS.icmpYes X102.here hx rfl (pc0 := 207) (pc' := 246) rfl (hb hby at_207) rfl (feq hc110).2 (by decide) (by decide) ?_
            show Steps p.tables e below (T102.setTop (mkF m 246 #[.val (.int p0), .val (.int p1), .val (.int p2), .val (.int p3), .val (.int s1), .val (.int s2), .val (.int li1), .val (.int lv1), .val (.int li2), .val (.int lv2), .val (.int q2), .val (.ref b20), .val (.int (p3 &&& (3 : Int32))), .val (.ref b77), .unset] [])) _
            refine XS.iconst X102.here hx rfl (hb hby at_246) ?_
            show Steps p.tables e below (T102.setTop (mkF m 247 #[.val (.int p0), .val (.int p1), .val (.int p2), .val (.int p3), .val (.int s1), .val (.int s2), .val (.int li1), .val (.int lv1), .val (.int li2), .val (.int lv2), .val (.int q2), .val (.ref b20), .val (.int (p3 &&& (3 : Int32))), .val (.ref b77), .unset] [(.int (0 : Int32))])) _
            refine XS.istore X102.here hx rfl (hb hby at_247) rfl (l' := #[.val (.int p0), .val (.int p1), .val (.int p2), .val (.int p3), .val (.int s1), .val (.int s2), .val (.int li1), .val (.int lv1), .val (.int li2), .val (.int lv2), .val (.int q2), .val (.ref b20), .val (.int (p3 &&& (3 : Int32))), .val (.ref b77), .val (.int (0 : Int32))]) rfl ?_
            show Steps p.tables e below (T102.setTop (mkF m 249 #[.val (.int p0), .val (.int p1), .val (.int p2), .val (.int p3), .val (.int s1), .val (.int s2), .val (.int li1), .val (.int lv1), .val (.int li2), .val (.int lv2), .val (.int q2), .val (.ref b20), .val (.int (p3 &&& (3 : Int32))), .val (.ref b77), .val (.int (0 : Int32))] [])) _
            exact kt
          rw [if_neg hc110] at hE
          have K175 : ∀ t, Steps p.tables e below (T102.setTop (mkF m 253 #[.val (.int p0), .val (.int p1), .val (.int p2), .val (.int p3), .val (.int s1), .val (.int s2), .val (.int li1), .val (.int lv1), .val (.int li2), .val (.int lv2), .val (.int q2), .val (.ref b20), .val (.int (p3 &&& (3 : Int32))), .val (.ref b77), .val (.int (0 : Int32))] [(.ref b77), (.ref b20)])) t → Steps p.tables e below G0 t := by
            intro t kt
            refine K174 t ?_
            refine XS.aload X102.here hx rfl (hb hby at_249) rfl rfl ?_
            show Steps p.tables e below (T102.setTop (mkF m 251 #[.val (.int p0), .val (.int p1), .val (.int p2), .val (.int p3), .val (.int s1), .val (.int s2), .val (.int li1), .val (.int lv1), .val (.int li2), .val (.int lv2), .val (.int q2), .val (.ref b20), .val (.int (p3 &&& (3 : Int32))), .val (.ref b77), .val (.int (0 : Int32))] [(.ref b20)])) _
            refine XS.aload X102.here hx rfl (hb hby at_251) rfl rfl ?_
            show Steps p.tables e below (T102.setTop (mkF m 253 #[.val (.int p0), .val (.int p1), .val (.int p2), .val (.int p3), .val (.int s1), .val (.int s2), .val (.int li1), .val (.int lv1), .val (.int li2), .val (.int lv2), .val (.int q2), .val (.ref b20), .val (.int (p3 &&& (3 : Int32))), .val (.ref b77), .val (.int (0 : Int32))] [(.ref b77), (.ref b20)])) _
            exact kt
          have f176 := (f97.keep KV102 (fun x hx => by cases List.mem_singleton.mp hx; exact gn77))
          have f177 := (((((FK045.ext E77).keep KV80 (fun q => nomatch q)).keep KV87 (fun q => nomatch q)).keep KV91 (fun q => nomatch q)).keep KV102 (fun q => ne_b20_b77 (List.mem_singleton.mp q)))
          have f178 := (((((FK145.ext E77).keep KV80 (fun q => nomatch q)).keep KV87 (fun q => nomatch q)).keep KV91 (fun q => nomatch q)).keep KV102 (fun q => ne_b20_b77 (List.mem_singleton.mp q)))
          have f179 := (((((FK245.ext E77).keep KV80 (fun q => nomatch q)).keep KV87 (fun q => nomatch q)).keep KV91 (fun q => nomatch q)).keep KV102 (fun q => ne_b20_b77 (List.mem_singleton.mp q)))
          have KQ180_0 := Keep.refl T45.heap []
          have sz180_77 := Nat.le_trans KQ180_0.1 (Nat.le_of_eq g77.symm)
          have KQ180_1 := KQ180_0.ext E77
          have KQ180_2 := KQ180_1.trans KV80 (fun x hx => nomatch hx)
          have KQ180_3 := KQ180_2.trans KV87 (fun x hx => nomatch hx)
          have KQ180_4 := KQ180_3.trans KV91 (fun x hx => nomatch hx)
          have KQ180_5 := KQ180_4.trans KV102 (fun x hx => by simp only [List.mem_cons, List.not_mem_nil, or_false] at hx; rcases hx with rfl <;> first | exact (Or.inr sz180_77))
          have s181 := own_Str.keep0 s47 KQ180_5
          have KQ182_0 := Keep.refl T45.heap []
          have sz182_77 := Nat.le_trans KQ182_0.1 (Nat.le_of_eq g77.symm)
          have KQ182_1 := KQ182_0.ext E77
          have KQ182_2 := KQ182_1.trans KV80 (fun x hx => nomatch hx)
          have KQ182_3 := KQ182_2.trans KV87 (fun x hx => nomatch hx)
          have KQ182_4 := KQ182_3.trans KV91 (fun x hx => nomatch hx)
          have KQ182_5 := KQ182_4.trans KV102 (fun x hx => by simp only [List.mem_cons, List.not_mem_nil, or_false] at hx; rcases hx with rfl <;> first | exact (Or.inr sz182_77))
          have s183 := own_Str.keep0 s49 KQ182_5
          have KQ184_0 := Keep.refl T45.heap []
          have sz184_77 := Nat.le_trans KQ184_0.1 (Nat.le_of_eq g77.symm)
          have KQ184_1 := KQ184_0.ext E77
          have KQ184_2 := KQ184_1.trans KV80 (fun x hx => nomatch hx)
          have KQ184_3 := KQ184_2.trans KV87 (fun x hx => nomatch hx)
          have KQ184_4 := KQ184_3.trans KV91 (fun x hx => nomatch hx)
          have KQ184_5 := KQ184_4.trans KV102 (fun x hx => by simp only [List.mem_cons, List.not_mem_nil, or_false] at hx; rcases hx with rfl <;> first | exact (Or.inr sz184_77))
          have s185 := own_Str.keep0 s51 KQ184_5
          have f186 := (((((EX45.ext E77).keep KV80).keep KV87).keep KV91).keep KV102)
          obtain ⟨cq187, kq187, q187a, q187b, q187c⟩ := isOf hZ102 (rfl : T102.heap = _) f186
          obtain ⟨v188, _, ⟨T188, L188, k188, n188⟩, -, X188, ⟨Lc188, hQ188, l188, y188, z188⟩, st188⟩ := X102.virtualBack hx (y := (⟨"com/example/lichen/lichen/model/PolicyIdentifier", "equals", "(Ljava/lang/Object;)Z"⟩ : MethodName)) (z := (⟨"com/example/lichen/lichen/model/PolicyIdentifier", "equals", "(Ljava/lang/Object;)Z"⟩ : MethodName)) hown102 (mvT hZ102 (hw _ (List.mem_of_getElem? (i := 74) rfl))) (mvT hZ102 (hw _ (List.mem_of_getElem? (i := 75) rfl))) (notFace_of_selects (args := #[]) (mvT hZ102 (hw _ (List.mem_of_getElem? (i := 77) rfl)))) (mvT hZ102 (hw _ (List.mem_of_getElem? (i := 77) rfl))) (mvT hZ102 (hw _ (List.mem_of_getElem? (i := 76) rfl))) (by decide) (backOf (W := 0) (rm14 l Z aa hw [] (b20) (b77) r23 r30 r34 r80 r87 r91 (own_kind s1) (own_str p1 li1) (own_str ((p1.toUInt32 >>> ((16 : Int32) &&& 31).toUInt32).toInt32) lv1) (own_kind s2) (own_str q2 li2) (own_str ((q2.toUInt32 >>> ((16 : Int32) &&& 31).toUInt32).toInt32) lv2) G1 T102.heap n0 Z102 O2 P5 f176 f177 f178 f179 s181 s183 s185 FK0102 FK1102 FK2102 s104 s106 s108 EX102) hZ102 (hw _ (List.mem_of_getElem? (i := 78) rfl)) (hw _ (List.mem_of_getElem? (i := 2) rfl)) (by decide) (by decide)) q187a q187c (g := (mkF m 253 #[.val (.int p0), .val (.int p1), .val (.int p2), .val (.int p3), .val (.int s1), .val (.int s2), .val (.int li1), .val (.int lv1), .val (.int li2), .val (.int lv2), .val (.int q2), .val (.ref b20), .val (.int (p3 &&& (3 : Int32))), .val (.ref b77), .val (.int (0 : Int32))] [(.ref b77), (.ref b20)])) rfl (by rw [hml]; rfl) (Steps.refl _) (argsL := [(.ref b77)]) (rest := []) (lenOf pd_PLjava_lang_Object_QZ rfl) rfl (by show 2 * 0 + _ ≤ _; exact Nat.le_of_eq rfl) (hb hby at_253) (fun _ _ => ⟨rfl, (rfl : T102.heap = _), (by decide : 48 + 0 ≤ _), (by decide : 322 + 0 ≤ _)⟩)
          dsimp only [Pt.U, Pt.locs, Pt.cells, Pt.slots] at X188 l188 y188 z188 st188 hQ188
          subst l188 y188 z188
          obtain ⟨rfl, N188q, e188⟩ := hQ188
          have N188 := Fr.app N102 N188q
          have K188 : ∀ t, Steps p.tables e below (T188.setTop (mkF m 256 #[.val (.int p0), .val (.int p1), .val (.int p2), .val (.int p3), .val (.int s1), .val (.int s2), .val (.int li1), .val (.int lv1), .val (.int li2), .val (.int lv2), .val (.int q2), .val (.ref b20), .val (.int (p3 &&& (3 : Int32))), .val (.ref b77), .val (.int (0 : Int32))] [(.int (own_e (own_kind s1) (own_kind s2) (own_str p1 li1) (own_str q2 li2) (own_str ((p1.toUInt32 >>> ((16 : Int32) &&& 31).toUInt32).toInt32) lv1) (own_str ((q2.toUInt32 >>> ((16 : Int32) &&& 31).toUInt32).toInt32) lv2)))])) t → Steps p.tables e below G0 t := fun t kt => K175 t (st188.trans kt)
          have K189 : ∀ t, Steps p.tables e below (T188.setTop (mkF m 265 #[.val (.int p0), .val (.int p1), .val (.int p2), .val (.int p3), .val (.int s1), .val (.int s2), .val (.int li1), .val (.int lv1), .val (.int li2), .val (.int lv2), .val (.int q2), .val (.ref b20), .val (.int (p3 &&& (3 : Int32))), .val (.ref b77), .val (.int (0 : Int32))] [(.ref b20), (.ref b77)])) t → Steps p.tables e below G0 t := by
            intro t kt
            refine K188 t ?_
            refine XS.iload X188.here hx rfl (hb hby at_256) rfl ?_
            show Steps p.tables e below (T188.setTop (mkF m 258 #[.val (.int p0), .val (.int p1), .val (.int p2), .val (.int p3), .val (.int s1), .val (.int s2), .val (.int li1), .val (.int lv1), .val (.int li2), .val (.int lv2), .val (.int q2), .val (.ref b20), .val (.int (p3 &&& (3 : Int32))), .val (.ref b77), .val (.int (0 : Int32))] [(.int (0 : Int32)), (.int (own_e (own_kind s1) (own_kind s2) (own_str p1 li1) (own_str q2 li2) (own_str ((p1.toUInt32 >>> ((16 : Int32) &&& 31).toUInt32).toInt32) lv1) (own_str ((q2.toUInt32 >>> ((16 : Int32) &&& 31).toUInt32).toInt32) lv2)))])) _
            refine XS.icmpNo X188.here hx rfl (hb hby at_258) rfl (teq hE).2 ?_
            show Steps p.tables e below (T188.setTop (mkF m 261 #[.val (.int p0), .val (.int p1), .val (.int p2), .val (.int p3), .val (.int s1), .val (.int s2), .val (.int li1), .val (.int lv1), .val (.int li2), .val (.int lv2), .val (.int q2), .val (.ref b20), .val (.int (p3 &&& (3 : Int32))), .val (.ref b77), .val (.int (0 : Int32))] [])) _
            refine XS.aload X188.here hx rfl (hb hby at_261) rfl rfl ?_
            show Steps p.tables e below (T188.setTop (mkF m 263 #[.val (.int p0), .val (.int p1), .val (.int p2), .val (.int p3), .val (.int s1), .val (.int s2), .val (.int li1), .val (.int lv1), .val (.int li2), .val (.int lv2), .val (.int q2), .val (.ref b20), .val (.int (p3 &&& (3 : Int32))), .val (.ref b77), .val (.int (0 : Int32))] [(.ref b77)])) _
            refine XS.aload X188.here hx rfl (hb hby at_263) rfl rfl ?_
            show Steps p.tables e below (T188.setTop (mkF m 265 #[.val (.int p0), .val (.int p1), .val (.int p2), .val (.int p3), .val (.int s1), .val (.int s2), .val (.int li1), .val (.int lv1), .val (.int li2), .val (.int lv2), .val (.int q2), .val (.ref b20), .val (.int (p3 &&& (3 : Int32))), .val (.ref b77), .val (.int (0 : Int32))] [(.ref b20), (.ref b77)])) _
            exact kt
          obtain ⟨cq190, kq190, q190a, q190b, q190c⟩ := isOf hZ102 e188 EX102
          obtain ⟨v191, _, ⟨T191, L191, k191, n191⟩, -, X191, ⟨Lc191, hQ191, l191, y191, z191⟩, st191⟩ := X188.virtualBack hx (y := (⟨"com/example/lichen/lichen/model/PolicyIdentifier", "equals", "(Ljava/lang/Object;)Z"⟩ : MethodName)) (z := (⟨"com/example/lichen/lichen/model/PolicyIdentifier", "equals", "(Ljava/lang/Object;)Z"⟩ : MethodName)) hown102 (mvT hZ102 (hw _ (List.mem_of_getElem? (i := 74) rfl))) (mvT hZ102 (hw _ (List.mem_of_getElem? (i := 75) rfl))) (notFace_of_selects (args := #[]) (mvT hZ102 (hw _ (List.mem_of_getElem? (i := 77) rfl)))) (mvT hZ102 (hw _ (List.mem_of_getElem? (i := 77) rfl))) (mvT hZ102 (hw _ (List.mem_of_getElem? (i := 76) rfl))) (by decide) (backOf (W := 0) (rm14 l Z aa hw [] (b77) (b20) r80 r87 r91 r23 r30 r34 (own_kind s2) (own_str q2 li2) (own_str ((q2.toUInt32 >>> ((16 : Int32) &&& 31).toUInt32).toInt32) lv2) (own_kind s1) (own_str p1 li1) (own_str ((p1.toUInt32 >>> ((16 : Int32) &&& 31).toUInt32).toInt32) lv1) G1 T102.heap n0 Z102 O2 P5 f176 FK0102 FK1102 FK2102 s104 s106 s108 f177 f178 f179 s181 s183 s185 f186) hZ102 (hw _ (List.mem_of_getElem? (i := 78) rfl)) (hw _ (List.mem_of_getElem? (i := 2) rfl)) (by decide) (by decide)) q190a q190c (g := (mkF m 265 #[.val (.int p0), .val (.int p1), .val (.int p2), .val (.int p3), .val (.int s1), .val (.int s2), .val (.int li1), .val (.int lv1), .val (.int li2), .val (.int lv2), .val (.int q2), .val (.ref b20), .val (.int (p3 &&& (3 : Int32))), .val (.ref b77), .val (.int (0 : Int32))] [(.ref b20), (.ref b77)])) rfl (by rw [hml]; rfl) (Steps.refl _) (argsL := [(.ref b20)]) (rest := []) (lenOf pd_PLjava_lang_Object_QZ rfl) rfl (by show 2 * 0 + _ ≤ _; exact Nat.le_of_eq rfl) (hb hby at_265) (fun _ _ => ⟨rfl, e188, (by decide : 48 + 0 ≤ _), (by decide : 322 + 0 ≤ _)⟩)
          dsimp only [Pt.U, Pt.locs, Pt.cells, Pt.slots] at X191 l191 y191 z191 st191 hQ191
          subst l191 y191 z191
          obtain ⟨rfl, N191q, e191⟩ := hQ191
          have N191 := Fr.app N188 N191q
          have K191 : ∀ t, Steps p.tables e below (T191.setTop (mkF m 268 #[.val (.int p0), .val (.int p1), .val (.int p2), .val (.int p3), .val (.int s1), .val (.int s2), .val (.int li1), .val (.int lv1), .val (.int li2), .val (.int lv2), .val (.int q2), .val (.ref b20), .val (.int (p3 &&& (3 : Int32))), .val (.ref b77), .val (.int (0 : Int32))] [(.int (own_e (own_kind s2) (own_kind s1) (own_str q2 li2) (own_str p1 li1) (own_str ((q2.toUInt32 >>> ((16 : Int32) &&& 31).toUInt32).toInt32) lv2) (own_str ((p1.toUInt32 >>> ((16 : Int32) &&& 31).toUInt32).toInt32) lv1)))])) t → Steps p.tables e below G0 t := fun t kt => K189 t (st191.trans kt)
          have K192 : ∀ t, Steps p.tables e below (T191.setTop (mkF m 278 #[.val (.int p0), .val (.int p1), .val (.int p2), .val (.int p3), .val (.int s1), .val (.int s2), .val (.int li1), .val (.int lv1), .val (.int li2), .val (.int lv2), .val (.int q2), .val (.ref b20), .val (.int (p3 &&& (3 : Int32))), .val (.ref b77), .val (.int (0 : Int32))] [(.int (1 : Int32))])) t → Steps p.tables e below G0 t := by
            intro t kt
            refine K191 t ?_
            refine XS.iload X191.here hx rfl (hb hby at_268) rfl ?_
            show Steps p.tables e below (T191.setTop (mkF m 270 #[.val (.int p0), .val (.int p1), .val (.int p2), .val (.int p3), .val (.int s1), .val (.int s2), .val (.int li1), .val (.int lv1), .val (.int li2), .val (.int lv2), .val (.int q2), .val (.ref b20), .val (.int (p3 &&& (3 : Int32))), .val (.ref b77), .val (.int (0 : Int32))] [(.int (0 : Int32)), (.int (own_e (own_kind s2) (own_kind s1) (own_str q2 li2) (own_str p1 li1) (own_str ((q2.toUInt32 >>> ((16 : Int32) &&& 31).toUInt32).toInt32) lv2) (own_str ((p1.toUInt32 >>> ((16 : Int32) &&& 31).toUInt32).toInt32) lv1)))])) _
            refine XS.icmpNo X191.here hx rfl (hb hby at_270) rfl (teq ((own_ec _ _ _ _ _ _).trans hE)).2 ?_
            show Steps p.tables e below (T191.setTop (mkF m 273 #[.val (.int p0), .val (.int p1), .val (.int p2), .val (.int p3), .val (.int s1), .val (.int s2), .val (.int li1), .val (.int lv1), .val (.int li2), .val (.int lv2), .val (.int q2), .val (.ref b20), .val (.int (p3 &&& (3 : Int32))), .val (.ref b77), .val (.int (0 : Int32))] [])) _
            refine XS.iconst X191.here hx rfl (hb hby at_273) ?_
            show Steps p.tables e below (T191.setTop (mkF m 274 #[.val (.int p0), .val (.int p1), .val (.int p2), .val (.int p3), .val (.int s1), .val (.int s2), .val (.int li1), .val (.int lv1), .val (.int li2), .val (.int lv2), .val (.int q2), .val (.ref b20), .val (.int (p3 &&& (3 : Int32))), .val (.ref b77), .val (.int (0 : Int32))] [(.int (1 : Int32))])) _
            refine XS.goto X191.here hx rfl (pc0 := 274) (pc' := 278) rfl (hb hby at_274) (by decide) (by decide) ?_
            show Steps p.tables e below (T191.setTop (mkF m 278 #[.val (.int p0), .val (.int p1), .val (.int p2), .val (.int p3), .val (.int s1), .val (.int s2), .val (.int li1), .val (.int lv1), .val (.int li2), .val (.int lv2), .val (.int q2), .val (.ref b20), .val (.int (p3 &&& (3 : Int32))), .val (.ref b77), .val (.int (0 : Int32))] [(.int (1 : Int32))])) _
            exact kt
          obtain ⟨fs, hr, hrun, hended, hREW⟩ := X191.leaveW hS102 (by rw [e191]; exact hk102) (v := some (.int (1 : Int32))) (fun h => by rw [Bd.returns] at h; cases h)
          have CHE := CH102.trans (CHv.at X191 hZ102 hEL CH102.1)
          refine ⟨_, _, ?_, hrun, hended, _, _, rfl, ?_, ?_, hREW.1, hREW.2.1, hREW.2.2.1, hREW.2.2.2.mono (by decide) (by decide)⟩
          · rw [← hG0]
            refine K192 _ ?_
            exact retN X191 hx (t := .boolean) Bd.returns (by simp) (hb hby at_278) hr
          · show Q0 Z p0 p1 p2 p3 G1 h0 n0 _ T191.heap _
            rw [e191]
            exact ⟨rfl, N191⟩
          · rw [hh]
            show CHr Z consts_1 s.vm h0 T191.vm T191.heap
            rw [e191]
            exact CHE
set_option maxRecDepth 65536 in
set_option maxHeartbeats 40000000 in
theorem comes_1 {Post : Tables → Env → Array Value → State → Outcome → State → Prop} (hpost : ∀ tb e args s v u, (limb_1_1.after args s (.returned v) u = true ∧ limb_1_2.after args s (.returned v) u = true ∧ True) → ReturnedEndW s (.returned v) u (Jvm.fieldLocs frame_1_writes args s ++ Jvm.arrayLocs frame_1_arrays args s ++ Jvm.staticLocs frame_1_statics s) 64 5376 → Post tb e args s (.returned v) u) :
    ArmFor flags0 classFile x code maxLocals ret World_1 tables_1 room_1 Calls_1 rest_1 Pre_1 Post := by
  intro l hfl _ _ p e ha hc hk s m args below hf hA hF happ hP
  obtain ⟨hcalls, hrest, hpre⟩ := hP
  obtain ⟨-, -, -, hnamed, -, -, -, hat⟩ := (Spec.applies_iff hf).mp happ
  obtain ⟨hg, hn⟩ := and_e (Cond.before_iff.mp (show (Jvm.Cond.and given_1 narrow_1).before args s = true from hpre))
  obtain ⟨g1, g2⟩ := and_e hg
  obtain ⟨g3, g4⟩ := and_e g2
  obtain ⟨g5, g6⟩ := and_e g4
  obtain ⟨g7, g8⟩ := and_e g6
  obtain ⟨w0, w1, w2, w3, rfl⟩ : ∃ w0 w1 w2 w3 : Value, args = #[w0, w1, w2, w3] := by
    have hs : args.size = 4 := by simpa [Cond.value, given_1] using g1
    obtain ⟨L⟩ := args
    match L, hs with
    | [w0, w1, w2, w3], _ => exact ⟨w0, w1, w2, w3, rfl⟩
  have hw := fun d (hd : d ∈ tables_1) => atoms_spec (ws := Jvm.Cond.code x code maxLocals ret :: tables_1) hat d (List.mem_cons_of_mem _ hd)
  have hfit : Fit s := fun {y c} hc i hi => by
    obtain ⟨ha, rfl⟩ := Array.getElem?_eq_some_iff.mp hc
    have q := List.all_eq_true.mp ((Array.all_eq_true_iff_forall_mem.mp hF) _ (Array.getElem_mem ha)) i (List.mem_range.mpr hi)
    simpa [Array.getElem?_eq_getElem hi] using q
  obtain ⟨hsets, hown0⟩ := atoms_of _ (rest_1_c_eq ▸ (show rest_1_c.before _ s = true from hrest))
  have hr0 := Cond.before_iff.mp hown0
  obtain ⟨i0, ei0⟩ := is_v g3
  obtain rfl : w0 = (.int i0) := Option.some.inj ei0
  obtain ⟨i1, ei1⟩ := is_v g5
  obtain rfl : w1 = (.int i1) := Option.some.inj ei1
  obtain ⟨i2, ei2⟩ := is_v g7
  obtain rfl : w2 = (.int i2) := Option.some.inj ei2
  obtain ⟨i3, ei3⟩ := is_v g8
  obtain rfl : w3 = (.int i3) := Option.some.inj ei3
  obtain ⟨G1, evG⟩ := is_v (Cond.before_iff.mp (hsets _ (List.mem_of_getElem? (i := 1) rfl)))
  have O2 := Sta.start evG (Or.inl (hsets _ (List.mem_of_getElem? (i := 0) rfl)))
  have hcw := (hsets _ (List.mem_of_getElem? (i := 2) rfl))
  have P5 : ¬ G1 = 0 := gotF (Cond.eq_ints evG (Term.int_eval (0))) (not_v (Cond.before_iff.mp hcw))
  have hCH : CHv s consts_1 s.vm s.heap := CHv.start (own_EW hw) (fun p hp => hcalls.1 p hp) hcw (hw _ (List.mem_of_getElem? (i := 26) rfl)) (hw _ (List.mem_of_getElem? (i := 8) rfl))
  obtain ⟨n, o, h1, h2, h3, _, L, rfl, ⟨rfl, N⟩, -, hq⟩ := rm0 l s _ hw (own_EW hw) tables_1 i0 i1 i2 i3 G1 s.heap s.heap.size (Nat.le_refl _) O2 P5 (Old.start s) p e ha hc hk s m _ below hf ((Spec.applies_iff_loose hf).mp happ).1 ⟨rfl, State.Warmed39.refl s, rfl, hCH⟩ trivial
  refine ⟨n, _, h1, h2, h3, hpost _ _ _ _ _ _ ⟨Cond.after_iff.mpr rfl, Cond.after_iff.mpr (eq_i res_at (Term.int_eval (1)) rfl), trivial⟩ ⟨hq.1, hq.2.1, hq.2.2.1, (hq.2.2.2.sift fun y hy => Or.inr (N y hy)).mono (by decide) (by decide)⟩⟩
theorem main_1_1 : Claimed_1_1 := comes_1 fun _ _ _ _ _ _ h hF => ⟨h.1, hF⟩
theorem main_1_2 : Claimed_1_2 := comes_1 fun _ _ _ _ _ _ h hF => ⟨h.2.1, hF⟩
end Jvm.Pilot.@@N@@
namespace Jvm.Pilot.@@N@@
open Jvm Jvm.ClassFile Sem Op Lib Jvm.Free Jvm.Stand Jvm.Pilot.@@N@@.Jvm.D
/-! MADE BY PROGRAM (witnessworld.py) out of the Statement's table words and the real class files: 21 classes; the members and pool entries that the words name. The judged class is class 1, her method 4. -/
namespace start1
open Jvm.ClassFile
def u (s : String) : CpInfo := .utf8 (stringToUtf16 s)
/-- a pool by its gaps: so many unusable entries, then the entry; so many at the end -/
def gap : Nat → List CpInfo → List CpInfo
  | 0, r => r
  | n + 1, r => .unusable :: gap n r
def poolList (es : List (Nat × CpInfo)) (last : Nat) : List CpInfo := es.foldr (fun e r => gap e.1 (e.2 :: r)) (gap last [])
def pool (es : List (Nat × CpInfo)) (last : Nat) : Array CpInfo := ⟨poolList es last⟩
def fileOf (pool : Array CpInfo) (this : Nat) (attrs : Array Attribute := #[]) (ms : Array MethodInfo := #[]) (fl : Nat := 33) (sup : Nat := 0) (ifs : Array Nat := #[]) (fds : Array FieldInfo := #[]) : ClassFile where
  minorVersion := 0
  majorVersion := 65
  constantPool := pool
  accessFlags := fl
  thisClass := this
  superClass := sup
  interfaces := ifs
  fields := fds
  methods := ms
  attributes := attrs
def plain (name : String) (sup : Option ClassId) : Class where
  name := name
  kind := .ordinary
  loader := none
  accessFlags := 33
  super := sup
  interfaces := #[]
  cf := none
  fields := #[]
  methods := #[]
  instanceTypes := #[]
  staticTypes := #[]
  resolved := #[]
  callSites := []
  init := .initialized
  statics := none
  mirror := none

def pool0 : Array CpInfo := pool [(5, u "<init>"), (0, u "()V"), (1, .class_ 10), (1, u "java/lang/Object")] 113

def k0c0 : Code := { maxStack := 0, maxLocals := 1, code := object_method_1_code, exceptionTable := #[], attributes := #[] }
def k0m0 : Method := { name := "<init>", desc := "()V", sig := { parameters := [], returnType := none }, accessFlags := 1, code := some k0c0 }
/-- java/lang/Object -/
def k0 : Class := { plain "java/lang/Object" none with
  accessFlags := 33
  interfaces := #[]
  cf := some (fileOf pool0 8 #[] #[{ accessFlags := 1, nameIndex := 5, descriptorIndex := 6, attributes := #[] }] 33 0 #[] #[])
  fields := #[]
  methods := #[k0m0]
  instanceTypes := #[]
  staticTypes := #[]
  resolved := Array.replicate 124 none
  statics := none }

def pool1 : Array CpInfo := pool [(2, .class_ 4), (1, u "java/lang/Object"), (0, u "<init>"), (0, u "()V"), (0, .class_ 8), (0, u "java/lang/String"), (0, .methodref 7 10), (0, .nameAndType 5 11), (0, u "([C)V"), (0, .class_ 13), (0, u "com/example/lichen/lichen/model/PolicyIdentifier"), (0, .methodref 15 16), (0, .class_ 17), (0, .nameAndType 18 19), (0, u "com/example/lichen/lichen/model/PolicyIdentifierEqualsPinLaw"), (0, u "kind"), (0, u "(Z)Ljava/lang/String;"), (0, .methodref 15 21), (0, .nameAndType 22 23), (0, u "str"), (0, u "(II)Ljava/lang/String;"), (0, .methodref 12 25), (0, .nameAndType 5 26), (0, u "(Ljava/lang/String;Ljava/lang/String;Ljava/lang/String;)V"), (0, .methodref 12 28), (0, .nameAndType 29 30), (0, u "equals"), (0, u "(Ljava/lang/Object;)Z"), (0, .methodref 15 32), (0, .nameAndType 33 34), (0, u "same"), (0, u "(IIII)Z"), (3, u "law")] 2

def k1m0 : Method := { name := "<init>", desc := "()V", sig := { parameters := [], returnType := none }, accessFlags := 1, code := none }
def k1c1 : Code := { maxStack := 6, maxLocals := 1, code := method_2_code, exceptionTable := #[], attributes := #[] }
def k1m1 : Method := { name := "kind", desc := "(Z)Ljava/lang/String;", sig := { parameters := [.boolean], returnType := some (.object "java/lang/String") }, accessFlags := 10, code := some k1c1 }
def k1c2 : Code := { maxStack := 6, maxLocals := 4, code := method_3_code, exceptionTable := #[], attributes := #[] }
def k1m2 : Method := { name := "str", desc := "(II)Ljava/lang/String;", sig := { parameters := [.int, .int], returnType := some (.object "java/lang/String") }, accessFlags := 10, code := some k1c2 }
def k1c3 : Code := { maxStack := 3, maxLocals := 4, code := method_4_code, exceptionTable := #[], attributes := #[] }
def k1m3 : Method := { name := "same", desc := "(IIII)Z", sig := { parameters := [.int, .int, .int, .int], returnType := some .boolean }, accessFlags := 10, code := some k1c3 }
def k1c4 : Code := { maxStack := 6, maxLocals := 15, code := code, exceptionTable := #[], attributes := #[] }
def k1m4 : Method := { name := "law", desc := "(IIII)Z", sig := { parameters := [.int, .int, .int, .int], returnType := some .boolean }, accessFlags := 9, code := some k1c4 }
/-- com/example/lichen/lichen/model/PolicyIdentifierEqualsPinLaw -/
def k1 : Class := { plain "com/example/lichen/lichen/model/PolicyIdentifierEqualsPinLaw" (some 0) with
  accessFlags := 49
  interfaces := #[]
  cf := some (fileOf pool1 15 #[] #[{ accessFlags := 1, nameIndex := 5, descriptorIndex := 6, attributes := #[] }, { accessFlags := 10, nameIndex := 18, descriptorIndex := 19, attributes := #[] }, { accessFlags := 10, nameIndex := 22, descriptorIndex := 23, attributes := #[] }, { accessFlags := 10, nameIndex := 33, descriptorIndex := 34, attributes := #[] }, { accessFlags := 9, nameIndex := 38, descriptorIndex := 34, attributes := #[] }] 49 2 #[] #[])
  fields := #[]
  methods := #[k1m0, k1m1, k1m2, k1m3, k1m4]
  instanceTypes := #[]
  staticTypes := #[]
  resolved := Array.replicate 41 none
  statics := none }

def pool2 : Array CpInfo := pool [(1, .methodref 2 3), (0, .class_ 4), (0, .nameAndType 5 6), (0, u "java/lang/Object"), (0, u "<init>"), (0, u "()V"), (0, .methodref 8 9), (0, .class_ 10), (0, .nameAndType 11 12), (0, u "com/example/lichen/lichen/model/PolicyIdentifier"), (0, u "requireKind"), (0, u "(Ljava/lang/String;)Ljava/lang/String;"), (0, .fieldref 8 14), (0, .nameAndType 15 16), (0, u "kind"), (0, u "Ljava/lang/String;"), (0, .string 18), (0, u "id"), (0, .methodref 20 21), (0, .class_ 22), (0, .nameAndType 23 24), (0, u "java/util/Objects"), (0, u "requireNonNull"), (0, u "(Ljava/lang/Object;Ljava/lang/String;)Ljava/lang/Object;"), (0, .class_ 26), (0, u "java/lang/String"), (0, .fieldref 8 28), (0, .nameAndType 18 16), (0, .string 30), (0, u "version"), (0, .fieldref 8 32), (0, .nameAndType 30 16), (0, .string 34), (0, u "Policy"), (0, .methodref 25 36), (0, .nameAndType 37 38), (0, u "equals"), (0, u "(Ljava/lang/Object;)Z"), (0, .string 40), (0, u "PolicySet"), (15, u "(Ljava/lang/String;Ljava/lang/String;Ljava/lang/String;)V")] 29

def k2c0 : Code := { maxStack := 3, maxLocals := 4, code := prog_143_method_1_code, exceptionTable := #[], attributes := #[] }
def k2m0 : Method := { name := "<init>", desc := "(Ljava/lang/String;Ljava/lang/String;Ljava/lang/String;)V", sig := { parameters := [(.object "java/lang/String"), (.object "java/lang/String"), (.object "java/lang/String")], returnType := none }, accessFlags := 1, code := some k2c0 }
def k2c1 : Code := { maxStack := 3, maxLocals := 1, code := prog_143_method_2_code, exceptionTable := #[], attributes := #[] }
def k2m1 : Method := { name := "requireKind", desc := "(Ljava/lang/String;)Ljava/lang/String;", sig := { parameters := [(.object "java/lang/String")], returnType := some (.object "java/lang/String") }, accessFlags := 8, code := some k2c1 }
def k2c2 : Code := { maxStack := 2, maxLocals := 2, code := prog_143_method_6_code, exceptionTable := #[], attributes := #[] }
def k2m2 : Method := { name := "equals", desc := "(Ljava/lang/Object;)Z", sig := { parameters := [(.object "java/lang/Object")], returnType := some .boolean }, accessFlags := 1, code := some k2c2 }
/-- com/example/lichen/lichen/model/PolicyIdentifier -/
def k2 : Class := { plain "com/example/lichen/lichen/model/PolicyIdentifier" (some 0) with
  accessFlags := 49
  interfaces := #[]
  cf := some (fileOf pool2 8 #[] #[{ accessFlags := 1, nameIndex := 5, descriptorIndex := 56, attributes := #[] }, { accessFlags := 8, nameIndex := 11, descriptorIndex := 12, attributes := #[] }, { accessFlags := 1, nameIndex := 37, descriptorIndex := 38, attributes := #[] }] 49 2 #[] #[{ accessFlags := 18, nameIndex := 15, descriptorIndex := 16, attributes := #[] }, { accessFlags := 18, nameIndex := 18, descriptorIndex := 16, attributes := #[] }, { accessFlags := 18, nameIndex := 30, descriptorIndex := 16, attributes := #[] }])
  fields := #[{ name := "kind", type := (.object "java/lang/String"), accessFlags := 18, slot := 0, constantValue := 0 }, { name := "id", type := (.object "java/lang/String"), accessFlags := 18, slot := 1, constantValue := 0 }, { name := "version", type := (.object "java/lang/String"), accessFlags := 18, slot := 2, constantValue := 0 }]
  methods := #[k2m0, k2m1, k2m2]
  instanceTypes := #[(.object "java/lang/String"), (.object "java/lang/String"), (.object "java/lang/String")]
  staticTypes := #[]
  resolved := Array.replicate 86 none
  statics := none }

def pool3 : Array CpInfo := pool [(1, .class_ 2), (0, u "java/io/Serializable"), (0, .class_ 4), (0, u "java/lang/Object")] 2

/-- java/io/Serializable -/
def k3 : Class := { plain "java/io/Serializable" (some 0) with
  accessFlags := 1537
  interfaces := #[]
  cf := some (fileOf pool3 1 #[] #[] 1537 3 #[] #[])
  fields := #[]
  methods := #[]
  instanceTypes := #[]
  staticTypes := #[]
  resolved := Array.replicate 7 none
  statics := none }

def pool4 : Array CpInfo := pool [(1, .class_ 2), (0, u "java/lang/Comparable"), (0, .class_ 4), (0, u "java/lang/Object")] 7

/-- java/lang/Comparable -/
def k4 : Class := { plain "java/lang/Comparable" (some 0) with
  accessFlags := 1537
  interfaces := #[]
  cf := some (fileOf pool4 1 #[] #[] 1537 3 #[] #[])
  fields := #[]
  methods := #[]
  instanceTypes := #[]
  staticTypes := #[]
  resolved := Array.replicate 12 none
  statics := none }

def pool5 : Array CpInfo := pool [(2, .class_ 4), (1, u "java/lang/CharSequence"), (42, .class_ 48), (0, u "java/lang/CharSequence$1CodePointIterator"), (10, .class_ 60), (0, u "java/lang/CharSequence$1CharIterator"), (5, .class_ 67), (0, u "java/lang/Object")] 63

/-- java/lang/CharSequence -/
def k5 : Class := { plain "java/lang/CharSequence" (some 0) with
  accessFlags := 1537
  interfaces := #[]
  cf := some (fileOf pool5 2 #[.nestMembers #[47, 59]] #[] 1537 66 #[] #[])
  fields := #[]
  methods := #[]
  instanceTypes := #[]
  staticTypes := #[]
  resolved := Array.replicate 131 none
  statics := none }

def pool6 : Array CpInfo := pool [(1, .class_ 2), (0, u "java/lang/constant/Constable"), (0, .class_ 4), (0, u "java/lang/Object")] 6

/-- java/lang/constant/Constable -/
def k6 : Class := { plain "java/lang/constant/Constable" (some 0) with
  accessFlags := 1537
  interfaces := #[]
  cf := some (fileOf pool6 1 #[] #[] 1537 3 #[] #[])
  fields := #[]
  methods := #[]
  instanceTypes := #[]
  staticTypes := #[]
  resolved := Array.replicate 11 none
  statics := none }

def pool7 : Array CpInfo := pool [(1, .class_ 2), (0, u "java/lang/constant/ConstantDesc"), (0, .class_ 4), (0, u "java/lang/Object")] 32

/-- java/lang/constant/ConstantDesc -/
def k7 : Class := { plain "java/lang/constant/ConstantDesc" (some 0) with
  accessFlags := 1537
  interfaces := #[]
  cf := some (fileOf pool7 1 #[] #[] 1537 3 #[] #[])
  fields := #[]
  methods := #[]
  instanceTypes := #[]
  staticTypes := #[]
  resolved := Array.replicate 37 none
  statics := none }

def pool8 : Array CpInfo := pool [(1, .methodref 2 3), (0, .class_ 4), (0, .nameAndType 5 6), (0, u "java/lang/Object"), (0, u "<init>"), (0, u "()V"), (0, .string 8), (0, u ""), (0, .fieldref 10 11), (0, .class_ 12), (0, .nameAndType 13 14), (0, u "java/lang/String"), (0, u "value"), (0, u "[B"), (0, .fieldref 10 16), (0, .nameAndType 17 18), (0, u "coder"), (0, u "B"), (2, u "hash"), (0, u "I"), (2, u "hashIsZero"), (0, u "Z"), (0, .methodref 10 28), (0, .nameAndType 5 29), (0, u "([CIILjava/lang/Void;)V"), (8, .fieldref 10 39), (0, .nameAndType 40 26), (0, u "COMPACT_STRINGS"), (1, .class_ 44), (1, u "java/lang/StringUTF16"), (0, u "compress"), (1, .methodref 42 48), (0, .nameAndType 49 50), (0, u "coderFromArrayLen"), (0, u "([BI)B"), (56, .class_ 109), (1, u "java/lang/StringLatin1"), (67, .methodref 42 178), (0, .nameAndType 45 179), (0, u "([CII)[B"), (361, .methodref 107 542), (0, .nameAndType 543 544), (0, u "equals"), (0, u "([B[B)Z"), (28, u "(Ljava/lang/Object;)Z"), (1, .class_ 576), (0, u "java/lang/CharSequence"), (22, u "CASE_INSENSITIVE_ORDER"), (0, u "Ljava/util/Comparator;"), (409, u "([C)V"), (90, u "serialPersistentFields"), (0, u "[Ljava/io/ObjectStreamField;"), (0, .class_ 1104), (0, u "java/lang/String$CaseInsensitiveComparator"), (1, .class_ 1107), (0, u "java/io/Serializable"), (0, .class_ 1109), (0, u "java/lang/Comparable"), (0, .class_ 1111), (0, u "java/lang/constant/Constable"), (0, .class_ 1113), (0, u "java/lang/constant/ConstantDesc"), (2, u "serialVersionUID"), (0, u "J"), (3, u "REPL"), (0, u "C"), (2, u "LATIN1"), (1, u "UTF16")] 323

def k8m0 : Method := { name := "<init>", desc := "()V", sig := { parameters := [], returnType := none }, accessFlags := 1, code := none }
def k8c1 : Code := { maxStack := 5, maxLocals := 2, code := jdk_42_method_3_code, exceptionTable := #[], attributes := #[] }
def k8m1 : Method := { name := "<init>", desc := "([C)V", sig := { parameters := [(.array .char)], returnType := none }, accessFlags := 1, code := some k8c1 }
def k8c2 : Code := { maxStack := 2, maxLocals := 3, code := jdk_42_method_66_code, exceptionTable := #[], attributes := #[] }
def k8m2 : Method := { name := "equals", desc := "(Ljava/lang/Object;)Z", sig := { parameters := [(.object "java/lang/Object")], returnType := some .boolean }, accessFlags := 1, code := some k8c2 }
def k8c3 : Code := { maxStack := 4, maxLocals := 6, code := jdk_42_method_149_code, exceptionTable := #[], attributes := #[] }
def k8m3 : Method := { name := "<init>", desc := "([CIILjava/lang/Void;)V", sig := { parameters := [(.array .char), .int, .int, (.object "java/lang/Void")], returnType := none }, accessFlags := 2, code := some k8c3 }
/-- java/lang/String -/
def k8 : Class := { plain "java/lang/String" (some 0) with
  accessFlags := 49
  interfaces := #[3, 4, 5, 6, 7]
  cf := some (fileOf pool8 10 #[.nestMembers #[1103]] #[{ accessFlags := 1, nameIndex := 5, descriptorIndex := 6, attributes := #[] }, { accessFlags := 1, nameIndex := 5, descriptorIndex := 1010, attributes := #[] }, { accessFlags := 1, nameIndex := 543, descriptorIndex := 573, attributes := #[] }, { accessFlags := 2, nameIndex := 5, descriptorIndex := 29, attributes := #[] }] 49 2 #[1106, 1108, 575, 1110, 1112] #[{ accessFlags := 18, nameIndex := 13, descriptorIndex := 14, attributes := #[] }, { accessFlags := 18, nameIndex := 17, descriptorIndex := 18, attributes := #[] }, { accessFlags := 2, nameIndex := 21, descriptorIndex := 22, attributes := #[] }, { accessFlags := 2, nameIndex := 25, descriptorIndex := 26, attributes := #[] }, { accessFlags := 26, nameIndex := 1116, descriptorIndex := 1117, attributes := #[] }, { accessFlags := 24, nameIndex := 40, descriptorIndex := 26, attributes := #[] }, { accessFlags := 26, nameIndex := 1101, descriptorIndex := 1102, attributes := #[] }, { accessFlags := 26, nameIndex := 1121, descriptorIndex := 1122, attributes := #[] }, { accessFlags := 25, nameIndex := 599, descriptorIndex := 600, attributes := #[] }, { accessFlags := 24, nameIndex := 1125, descriptorIndex := 18, attributes := #[] }, { accessFlags := 24, nameIndex := 1127, descriptorIndex := 18, attributes := #[] }])
  fields := #[{ name := "value", type := (.array .byte), accessFlags := 18, slot := 0, constantValue := 0 }, { name := "coder", type := .byte, accessFlags := 18, slot := 1, constantValue := 0 }, { name := "hash", type := .int, accessFlags := 2, slot := 2, constantValue := 0 }, { name := "hashIsZero", type := .boolean, accessFlags := 2, slot := 3, constantValue := 0 }, { name := "serialVersionUID", type := .long, accessFlags := 26, slot := 0, constantValue := 0 }, { name := "COMPACT_STRINGS", type := .boolean, accessFlags := 24, slot := 1, constantValue := 0 }, { name := "serialPersistentFields", type := (.array (.object "java/io/ObjectStreamField")), accessFlags := 26, slot := 2, constantValue := 0 }, { name := "REPL", type := .char, accessFlags := 26, slot := 3, constantValue := 0 }, { name := "CASE_INSENSITIVE_ORDER", type := (.object "java/util/Comparator"), accessFlags := 25, slot := 4, constantValue := 0 }, { name := "LATIN1", type := .byte, accessFlags := 24, slot := 5, constantValue := 0 }, { name := "UTF16", type := .byte, accessFlags := 24, slot := 6, constantValue := 0 }]
  methods := #[k8m0, k8m1, k8m2, k8m3]
  instanceTypes := #[(.array .byte), .byte, .int, .boolean]
  staticTypes := #[.long, .boolean, (.array (.object "java/io/ObjectStreamField")), .char, (.object "java/util/Comparator"), .byte, .byte]
  resolved := Array.replicate 1451 none
  statics := some 0 }

def pool9 : Array CpInfo := pool [(6, .class_ 8), (1, u "java/lang/Object"), (0, u "<init>"), (0, u "()V"), (1, .class_ 14), (1, u "java/lang/StringUTF16"), (31, u "$assertionsDisabled"), (0, u "Z"), (13, u "HI_BYTE_SHIFT"), (0, u "I"), (2, u "LO_BYTE_SHIFT"), (49, .methodref 12 116), (0, .nameAndType 117 118), (0, u "compress"), (0, u "([CI[BII)I"), (3, u "([CII)[B"), (138, u "coderFromArrayLen"), (0, u "([BI)B"), (106, .class_ 371), (1, u "java/lang/StringUTF16$LinesSpliterator"), (58, u "MAX_LENGTH"), (196, .class_ 628), (0, u "java/lang/StringUTF16$CodePointsSpliterator"), (0, .class_ 630), (0, u "java/lang/StringUTF16$CharsSpliterator")] 4

def k9m0 : Method := { name := "<init>", desc := "()V", sig := { parameters := [], returnType := none }, accessFlags := 0, code := none }
def k9c1 : Code := { maxStack := 2, maxLocals := 2, code := jdk_52_method_15_code, exceptionTable := #[], attributes := #[] }
def k9m1 : Method := { name := "coderFromArrayLen", desc := "([BI)B", sig := { parameters := [(.array .byte), .int], returnType := some .byte }, accessFlags := 8, code := some k9c1 }
def k9c2 : Code := { maxStack := 5, maxLocals := 6, code := jdk_52_method_16_code, exceptionTable := #[], attributes := #[] }
def k9m2 : Method := { name := "compress", desc := "([CII)[B", sig := { parameters := [(.array .char), .int, .int], returnType := some (.array .byte) }, accessFlags := 9, code := some k9c2 }
def k9c3 : Code := { maxStack := 3, maxLocals := 7, code := jdk_52_method_21_code, exceptionTable := #[], attributes := #[] }
def k9m3 : Method := { name := "compress", desc := "([CI[BII)I", sig := { parameters := [(.array .char), .int, (.array .byte), .int, .int], returnType := some .int }, accessFlags := 9, code := some k9c3 }
/-- java/lang/StringUTF16 -/
def k9 : Class := { plain "java/lang/StringUTF16" (some 0) with
  accessFlags := 48
  interfaces := #[]
  cf := some (fileOf pool9 12 #[.nestMembers #[627, 629, 369]] #[{ accessFlags := 0, nameIndex := 9, descriptorIndex := 10, attributes := #[] }, { accessFlags := 8, nameIndex := 261, descriptorIndex := 262, attributes := #[] }, { accessFlags := 9, nameIndex := 117, descriptorIndex := 122, attributes := #[] }, { accessFlags := 9, nameIndex := 117, descriptorIndex := 118, attributes := #[] }] 48 6 #[] #[{ accessFlags := 26, nameIndex := 61, descriptorIndex := 62, attributes := #[] }, { accessFlags := 26, nameIndex := 65, descriptorIndex := 62, attributes := #[] }, { accessFlags := 24, nameIndex := 430, descriptorIndex := 62, attributes := #[] }, { accessFlags := 4120, nameIndex := 46, descriptorIndex := 47, attributes := #[] }])
  fields := #[{ name := "HI_BYTE_SHIFT", type := .int, accessFlags := 26, slot := 0, constantValue := 0 }, { name := "LO_BYTE_SHIFT", type := .int, accessFlags := 26, slot := 1, constantValue := 0 }, { name := "MAX_LENGTH", type := .int, accessFlags := 24, slot := 2, constantValue := 0 }, { name := "$assertionsDisabled", type := .boolean, accessFlags := 4120, slot := 3, constantValue := 0 }]
  methods := #[k9m0, k9m1, k9m2, k9m3]
  instanceTypes := #[]
  staticTypes := #[.int, .int, .int, .boolean]
  resolved := Array.replicate 635 none
  statics := none }

def pool10 : Array CpInfo := pool [(4, .class_ 6), (1, u "java/lang/Object"), (0, u "<init>"), (0, u "()V"), (5, .class_ 16), (1, u "java/lang/StringLatin1"), (104, u "$assertionsDisabled"), (0, u "Z"), (98, .class_ 223), (1, u "java/lang/StringLatin1$LinesSpliterator"), (57, u "equals"), (0, u "([B[B)Z"), (107, .class_ 391), (0, u "java/lang/StringLatin1$CharsSpliterator")] 3

def k10m0 : Method := { name := "<init>", desc := "()V", sig := { parameters := [], returnType := none }, accessFlags := 0, code := none }
def k10c1 : Code := { maxStack := 3, maxLocals := 3, code := jdk_43_method_13_code, exceptionTable := #[], attributes := #[] }
def k10m1 : Method := { name := "equals", desc := "([B[B)Z", sig := { parameters := [(.array .byte), (.array .byte)], returnType := some .boolean }, accessFlags := 9, code := some k10c1 }
/-- java/lang/StringLatin1 -/
def k10 : Class := { plain "java/lang/StringLatin1" (some 0) with
  accessFlags := 48
  interfaces := #[]
  cf := some (fileOf pool10 14 #[.nestMembers #[390, 221]] #[{ accessFlags := 0, nameIndex := 7, descriptorIndex := 8, attributes := #[] }, { accessFlags := 9, nameIndex := 281, descriptorIndex := 282, attributes := #[] }] 48 4 #[] #[{ accessFlags := 4120, nameIndex := 121, descriptorIndex := 122, attributes := #[] }])
  fields := #[{ name := "$assertionsDisabled", type := .boolean, accessFlags := 4120, slot := 0, constantValue := 0 }]
  methods := #[k10m0, k10m1]
  instanceTypes := #[]
  staticTypes := #[.boolean]
  resolved := Array.replicate 395 none
  statics := none }

def pool11 : Array CpInfo := pool [(2, .class_ 4), (1, u "java/lang/Object"), (0, u "<init>"), (0, u "()V"), (35, .class_ 44), (1, u "java/util/Objects"), (0, u "requireNonNull"), (48, u "(Ljava/lang/Object;Ljava/lang/String;)Ljava/lang/Object;")] 89

def k11m0 : Method := { name := "<init>", desc := "()V", sig := { parameters := [], returnType := none }, accessFlags := 2, code := none }
def k11c1 : Code := { maxStack := 3, maxLocals := 2, code := jdk_31_method_11_code, exceptionTable := #[], attributes := #[] }
def k11m1 : Method := { name := "requireNonNull", desc := "(Ljava/lang/Object;Ljava/lang/String;)Ljava/lang/Object;", sig := { parameters := [(.object "java/lang/Object"), (.object "java/lang/String")], returnType := some (.object "java/lang/Object") }, accessFlags := 9, code := some k11c1 }
/-- java/util/Objects -/
def k11 : Class := { plain "java/util/Objects" (some 0) with
  accessFlags := 49
  interfaces := #[]
  cf := some (fileOf pool11 42 #[] #[{ accessFlags := 2, nameIndex := 5, descriptorIndex := 6, attributes := #[] }, { accessFlags := 9, nameIndex := 45, descriptorIndex := 94, attributes := #[] }] 49 2 #[] #[])
  fields := #[]
  methods := #[k11m0, k11m1]
  instanceTypes := #[]
  staticTypes := #[]
  resolved := Array.replicate 184 none
  statics := none }

def pool12 : Array CpInfo := pool [(2, .class_ 4), (1, u "java/lang/Object"), (0, u "<init>"), (0, u "()V"), (17, .class_ 26), (1, u "jdk/internal/util/Preconditions"), (28, .class_ 56), (0, u "jdk/internal/util/Preconditions$4"), (57, .class_ 115), (0, u "jdk/internal/util/Preconditions$1"), (7, u "SIOOBE_FORMATTER"), (0, u "Ljava/util/function/BiFunction;"), (0, .class_ 126), (0, u "jdk/internal/util/Preconditions$2"), (3, u "AIOOBE_FORMATTER"), (0, .class_ 132), (0, u "jdk/internal/util/Preconditions$3"), (3, u "IOOBE_FORMATTER")] 57

def k12m0 : Method := { name := "<init>", desc := "()V", sig := { parameters := [], returnType := none }, accessFlags := 1, code := none }
/-- jdk/internal/util/Preconditions -/
def k12 : Class := { plain "jdk/internal/util/Preconditions" (some 0) with
  accessFlags := 33
  interfaces := #[]
  cf := some (fileOf pool12 24 #[.nestMembers #[55, 131, 125, 114]] #[{ accessFlags := 1, nameIndex := 5, descriptorIndex := 6, attributes := #[] }] 33 2 #[] #[{ accessFlags := 25, nameIndex := 123, descriptorIndex := 124, attributes := #[] }, { accessFlags := 25, nameIndex := 130, descriptorIndex := 124, attributes := #[] }, { accessFlags := 25, nameIndex := 136, descriptorIndex := 124, attributes := #[] }])
  fields := #[{ name := "SIOOBE_FORMATTER", type := (.object "java/util/function/BiFunction"), accessFlags := 25, slot := 0, constantValue := 0 }, { name := "AIOOBE_FORMATTER", type := (.object "java/util/function/BiFunction"), accessFlags := 25, slot := 1, constantValue := 0 }, { name := "IOOBE_FORMATTER", type := (.object "java/util/function/BiFunction"), accessFlags := 25, slot := 2, constantValue := 0 }]
  methods := #[k12m0]
  instanceTypes := #[]
  staticTypes := #[(.object "java/util/function/BiFunction"), (.object "java/util/function/BiFunction"), (.object "java/util/function/BiFunction")]
  resolved := Array.replicate 194 none
  statics := some 1 }

def pool13 : Array CpInfo := pool [(9, u "<init>"), (6, .class_ 18), (1, u "java/lang/Object"), (0, u "()V"), (1, .class_ 23), (1, u "jdk/internal/util/ArraysSupport"), (0, u "LOG2_ARRAY_LONG_INDEX_SCALE"), (0, u "I"), (2, u "U"), (0, u "Ljdk/internal/misc/Unsafe;"), (8, u "BIG_ENDIAN"), (0, u "Z"), (8, u "LOG2_BYTE_BIT_SIZE"), (4, u "LOG2_ARRAY_INT_INDEX_SCALE"), (54, u "JLA"), (0, u "Ljdk/internal/access/JavaLangAccess;"), (11, u "LOG2_ARRAY_BOOLEAN_INDEX_SCALE"), (9, u "LOG2_ARRAY_BYTE_INDEX_SCALE"), (5, u "LOG2_ARRAY_CHAR_INDEX_SCALE"), (5, u "LOG2_ARRAY_SHORT_INDEX_SCALE"), (18, u "LOG2_ARRAY_FLOAT_INDEX_SCALE"), (24, u "LOG2_ARRAY_DOUBLE_INDEX_SCALE"), (89, u "T_BOOLEAN"), (2, u "T_CHAR"), (1, u "T_FLOAT"), (1, u "T_DOUBLE"), (1, u "T_BYTE"), (1, u "T_SHORT"), (1, u "T_INT"), (1, u "T_LONG"), (1, u "SOFT_MAX_ARRAY_LENGTH")] 83

def k13m0 : Method := { name := "<init>", desc := "()V", sig := { parameters := [], returnType := none }, accessFlags := 2, code := none }
/-- jdk/internal/util/ArraysSupport -/
def k13 : Class := { plain "jdk/internal/util/ArraysSupport" (some 0) with
  accessFlags := 33
  interfaces := #[]
  cf := some (fileOf pool13 21 #[] #[{ accessFlags := 2, nameIndex := 9, descriptorIndex := 19, attributes := #[] }] 33 16 #[] #[{ accessFlags := 24, nameIndex := 28, descriptorIndex := 29, attributes := #[] }, { accessFlags := 26, nameIndex := 38, descriptorIndex := 39, attributes := #[] }, { accessFlags := 25, nameIndex := 121, descriptorIndex := 25, attributes := #[] }, { accessFlags := 25, nameIndex := 131, descriptorIndex := 25, attributes := #[] }, { accessFlags := 25, nameIndex := 137, descriptorIndex := 25, attributes := #[] }, { accessFlags := 25, nameIndex := 143, descriptorIndex := 25, attributes := #[] }, { accessFlags := 25, nameIndex := 53, descriptorIndex := 25, attributes := #[] }, { accessFlags := 25, nameIndex := 24, descriptorIndex := 25, attributes := #[] }, { accessFlags := 25, nameIndex := 162, descriptorIndex := 25, attributes := #[] }, { accessFlags := 25, nameIndex := 187, descriptorIndex := 25, attributes := #[] }, { accessFlags := 26, nameIndex := 48, descriptorIndex := 25, attributes := #[] }, { accessFlags := 25, nameIndex := 277, descriptorIndex := 25, attributes := #[] }, { accessFlags := 25, nameIndex := 280, descriptorIndex := 25, attributes := #[] }, { accessFlags := 25, nameIndex := 282, descriptorIndex := 25, attributes := #[] }, { accessFlags := 25, nameIndex := 284, descriptorIndex := 25, attributes := #[] }, { accessFlags := 25, nameIndex := 286, descriptorIndex := 25, attributes := #[] }, { accessFlags := 25, nameIndex := 288, descriptorIndex := 25, attributes := #[] }, { accessFlags := 25, nameIndex := 290, descriptorIndex := 25, attributes := #[] }, { accessFlags := 25, nameIndex := 292, descriptorIndex := 25, attributes := #[] }, { accessFlags := 26, nameIndex := 108, descriptorIndex := 109, attributes := #[] }, { accessFlags := 25, nameIndex := 294, descriptorIndex := 25, attributes := #[] }])
  fields := #[{ name := "U", type := (.object "jdk/internal/misc/Unsafe"), accessFlags := 24, slot := 0, constantValue := 0 }, { name := "BIG_ENDIAN", type := .boolean, accessFlags := 26, slot := 1, constantValue := 0 }, { name := "LOG2_ARRAY_BOOLEAN_INDEX_SCALE", type := .int, accessFlags := 25, slot := 2, constantValue := 0 }, { name := "LOG2_ARRAY_BYTE_INDEX_SCALE", type := .int, accessFlags := 25, slot := 3, constantValue := 0 }, { name := "LOG2_ARRAY_CHAR_INDEX_SCALE", type := .int, accessFlags := 25, slot := 4, constantValue := 0 }, { name := "LOG2_ARRAY_SHORT_INDEX_SCALE", type := .int, accessFlags := 25, slot := 5, constantValue := 0 }, { name := "LOG2_ARRAY_INT_INDEX_SCALE", type := .int, accessFlags := 25, slot := 6, constantValue := 0 }, { name := "LOG2_ARRAY_LONG_INDEX_SCALE", type := .int, accessFlags := 25, slot := 7, constantValue := 0 }, { name := "LOG2_ARRAY_FLOAT_INDEX_SCALE", type := .int, accessFlags := 25, slot := 8, constantValue := 0 }, { name := "LOG2_ARRAY_DOUBLE_INDEX_SCALE", type := .int, accessFlags := 25, slot := 9, constantValue := 0 }, { name := "LOG2_BYTE_BIT_SIZE", type := .int, accessFlags := 26, slot := 10, constantValue := 0 }, { name := "T_BOOLEAN", type := .int, accessFlags := 25, slot := 11, constantValue := 0 }, { name := "T_CHAR", type := .int, accessFlags := 25, slot := 12, constantValue := 0 }, { name := "T_FLOAT", type := .int, accessFlags := 25, slot := 13, constantValue := 0 }, { name := "T_DOUBLE", type := .int, accessFlags := 25, slot := 14, constantValue := 0 }, { name := "T_BYTE", type := .int, accessFlags := 25, slot := 15, constantValue := 0 }, { name := "T_SHORT", type := .int, accessFlags := 25, slot := 16, constantValue := 0 }, { name := "T_INT", type := .int, accessFlags := 25, slot := 17, constantValue := 0 }, { name := "T_LONG", type := .int, accessFlags := 25, slot := 18, constantValue := 0 }, { name := "JLA", type := (.object "jdk/internal/access/JavaLangAccess"), accessFlags := 26, slot := 19, constantValue := 0 }, { name := "SOFT_MAX_ARRAY_LENGTH", type := .int, accessFlags := 25, slot := 20, constantValue := 0 }]
  methods := #[k13m0]
  instanceTypes := #[]
  staticTypes := #[(.object "jdk/internal/misc/Unsafe"), .boolean, .int, .int, .int, .int, .int, .int, .int, .int, .int, .int, .int, .int, .int, .int, .int, .int, .int, (.object "jdk/internal/access/JavaLangAccess"), .int]
  resolved := Array.replicate 378 none
  statics := none }

def pool14 : Array CpInfo := pool [(1, u "java/lang/Cloneable"), (0, .class_ 1), (0, u "java/lang/Object"), (0, .class_ 3)] 3

/-- java/lang/Cloneable -/
def k14 : Class := { plain "java/lang/Cloneable" (some 0) with
  accessFlags := 1537
  interfaces := #[]
  cf := some (fileOf pool14 2 #[] #[] 1537 4 #[] #[])
  fields := #[]
  methods := #[]
  instanceTypes := #[]
  staticTypes := #[]
  resolved := Array.replicate 8 none
  statics := none }

/-- the primitive byte -/
def k15 : Class := { plain "byte" none with kind := .primitive 'B', accessFlags := 0x411 }
/-- [B -/
def k16 : Class := { plain "[B" (some 0) with kind := .array 15 .byte, interfaces := #[14, 3], accessFlags := 1041 }

/-- the primitive char -/
def k17 : Class := { plain "char" none with kind := .primitive 'C', accessFlags := 0x411 }
/-- [C -/
def k18 : Class := { plain "[C" (some 0) with kind := .array 17 .char, interfaces := #[14, 3], accessFlags := 1041 }

/-- the primitive int -/
def k19 : Class := { plain "int" none with kind := .primitive 'I', accessFlags := 0x411 }
/-- [I -/
def k20 : Class := { plain "[I" (some 0) with kind := .array 19 .int, interfaces := #[14, 3], accessFlags := 1041 }

def heap : Heap := #[{ cls := 8, slots := #[.long 0, .int 1, .null, .int 0, .null, .int 0, .int 0], vm := .statics 8 },
  { cls := 12, slots := #[.null, .null, .null], vm := .statics 12 }]
def classes : Array Class := #[k0, k1, k2, k3, k4, k5, k6, k7, k8, k9, k10, k11, k12, k13, k14, k15, k16, k17, k18, k19, k20]
def interned : List (Array UInt16 × Addr) := []
def slotsUsed : Nat := 10
def theMethod : MethodId := ⟨1, 4⟩
def args0 : Array Value := #[.int 9, .int 7, .int 7, .int 7]
def aboutOver (below : List Frame) : State where
  vm := { classes := classes, interned := interned.toArray }
  heap := heap
  slotsUsed := slotsUsed
  threads := #[{ frames := .invoking theMethod args0 :: below }]
def below0 : List Frame := [.native { method := ⟨0, 0⟩, args := #[] }]
def about1 : State := aboutOver below0
def p0 : Program := .bare "" "" ""
def e0 : Env := launch0.env 0 0 0
theorem w_frames : about1.frames = Frame.invoking theMethod args0 :: below0 := rfl
set_option maxRecDepth 65536 in
theorem w_args : argsFit about1.vm theMethod args0 = true := by decide +kernel
set_option maxRecDepth 65536 in
theorem w_heap : heapFits about1 = true := by decide +kernel
set_option maxRecDepth 65536 in
theorem w_runnable : about1.curStatus? = some .runnable := by decide +kernel
set_option maxRecDepth 65536 in
theorem w_alone : about1.alone = true := by decide +kernel
set_option maxRecDepth 65536 in
theorem w_named : about1.methodNamed? x = some theMethod := by decide +kernel
set_option maxRecDepth 65536 in
theorem w_hears : about1.hears theMethod below0 = true := by decide +kernel
set_option maxRecDepth 65536 in
theorem w_ripe : about1.ripe theMethod args0 below0 = true := by decide +kernel
theorem w_running : about1.status = .running := rfl
set_option maxRecDepth 65536 in
theorem w_room : about1.hasRoom e0.platform room_1 = true :=
  launch0.hasRoom_least _ room_1 (by decide +kernel) (by decide +kernel) (by decide +kernel) (by decide +kernel) (by decide +kernel) (by decide +kernel)
theorem allAtoms_all (ts : List Jvm.Cond) (a : Array Jvm.Value) (st : Jvm.State) : (allAtoms ts).before a st = ts.all (fun c => c.before a st) := by
  induction ts with
  | nil => rfl
  | cons c t ih =>
    show (Jvm.Cond.and c (allAtoms t)).before a st = _
    rw [Jvm.Cond.before_and, ih, List.all_cons]
def words1 : List Jvm.Cond := Jvm.Cond.code x code maxLocals ret :: tables_1
/-- a 'code' word, met by the world's own term for the bytes: nothing is compared byte by byte -/
theorem code_word {y : MethodName} {bytes : ByteArray} {mx : Nat} {rt : Option FieldType} {a : Array Value} {s : State} {m : MethodId} {meth : Method} {c : Code} (h1 : s.methodNamed? y = some m) (h2 : s.vm.method? m = some meth) (h3 : meth.code = some c) (h4 : c.code = bytes)
    (h5 : (c.maxLocals == mx && c.exceptionTable.isEmpty && decide (c.maxStack ≤ mostOperands) && decide (meth.sig.returnType = rt) && !meth.locks && decide (parseMethodDescriptor y.desc = some meth.sig)) = true) : (Jvm.Cond.code y bytes mx rt).before a s = true := by
  simp only [Bool.and_eq_true, beq_iff_eq, Bool.not_eq_true', decide_eq_true_eq] at h5
  obtain ⟨⟨⟨⟨⟨g1, g2⟩, g3⟩, g4⟩, g5⟩, g6⟩ := h5
  simp [Cond.before, Cond.holds, Cond.value, h1, h2, h3, h4, g1, g2, g3, g4, g5, g6]
def isCode : Jvm.Cond → Bool
  | .code _ _ _ _ => true
  | _ => false
theorem all_split {L : List Jvm.Cond} {P : Jvm.Cond → Bool} (h1 : L.all (fun c => isCode c || P c) = true) (h2 : ∀ c ∈ L.filter isCode, P c = true) : L.all P = true := by
  refine List.all_eq_true.mpr fun c hc => ?_
  have h := List.all_eq_true.mp h1 c hc
  rcases Bool.eq_false_or_eq_true (isCode c) with hi | hi
  · exact h2 c (List.mem_filter.mpr ⟨hc, hi⟩)
  · simpa [hi] using h
set_option maxRecDepth 65536 in
theorem w_c0 : (Jvm.Cond.code x code maxLocals ret).before args0 about1 = true := code_word (m := ⟨1, 4⟩) (meth := k1m4) (c := k1c4) (by decide +kernel) rfl rfl rfl (by decide +kernel)
set_option maxRecDepth 65536 in
theorem w_c1 : (Jvm.Cond.code ({ cls := "com/example/lichen/lichen/model/PolicyIdentifierEqualsPinLaw", name := "kind", desc := "(Z)Ljava/lang/String;" } : Jvm.MethodName) method_2_code (1 : Nat) (Option.some (Jvm.ClassFile.FieldType.object "java/lang/String"))).before args0 about1 = true := code_word (m := ⟨1, 1⟩) (meth := k1m1) (c := k1c1) (by decide +kernel) rfl rfl rfl (by decide +kernel)
set_option maxRecDepth 65536 in
theorem w_c2 : (Jvm.Cond.code ({ cls := "java/lang/String", name := "<init>", desc := "([C)V" } : Jvm.MethodName) jdk_42_method_3_code (2 : Nat) (Option.none : Option Jvm.ClassFile.FieldType)).before args0 about1 = true := code_word (m := ⟨8, 1⟩) (meth := k8m1) (c := k8c1) (by decide +kernel) rfl rfl rfl (by decide +kernel)
set_option maxRecDepth 65536 in
theorem w_c3 : (Jvm.Cond.code ({ cls := "java/lang/String", name := "<init>", desc := "([CIILjava/lang/Void;)V" } : Jvm.MethodName) jdk_42_method_149_code (6 : Nat) (Option.none : Option Jvm.ClassFile.FieldType)).before args0 about1 = true := code_word (m := ⟨8, 3⟩) (meth := k8m3) (c := k8c3) (by decide +kernel) rfl rfl rfl (by decide +kernel)
set_option maxRecDepth 65536 in
theorem w_c4 : (Jvm.Cond.code ({ cls := "java/lang/Object", name := "<init>", desc := "()V" } : Jvm.MethodName) object_method_1_code (1 : Nat) (Option.none : Option Jvm.ClassFile.FieldType)).before args0 about1 = true := code_word (m := ⟨0, 0⟩) (meth := k0m0) (c := k0c0) (by decide +kernel) rfl rfl rfl (by decide +kernel)
set_option maxRecDepth 65536 in
theorem w_c5 : (Jvm.Cond.code ({ cls := "java/lang/StringUTF16", name := "compress", desc := "([CII)[B" } : Jvm.MethodName) jdk_52_method_16_code (6 : Nat) (Option.some (Jvm.ClassFile.FieldType.array Jvm.ClassFile.FieldType.byte))).before args0 about1 = true := code_word (m := ⟨9, 2⟩) (meth := k9m2) (c := k9c2) (by decide +kernel) rfl rfl rfl (by decide +kernel)
set_option maxRecDepth 65536 in
theorem w_c6 : (Jvm.Cond.code ({ cls := "java/lang/StringUTF16", name := "compress", desc := "([CI[BII)I" } : Jvm.MethodName) jdk_52_method_21_code (7 : Nat) (Option.some Jvm.ClassFile.FieldType.int)).before args0 about1 = true := code_word (m := ⟨9, 3⟩) (meth := k9m3) (c := k9c3) (by decide +kernel) rfl rfl rfl (by decide +kernel)
set_option maxRecDepth 65536 in
theorem w_c7 : (Jvm.Cond.code ({ cls := "java/lang/StringUTF16", name := "coderFromArrayLen", desc := "([BI)B" } : Jvm.MethodName) jdk_52_method_15_code (2 : Nat) (Option.some Jvm.ClassFile.FieldType.byte)).before args0 about1 = true := code_word (m := ⟨9, 1⟩) (meth := k9m1) (c := k9c1) (by decide +kernel) rfl rfl rfl (by decide +kernel)
set_option maxRecDepth 65536 in
theorem w_c8 : (Jvm.Cond.code ({ cls := "com/example/lichen/lichen/model/PolicyIdentifierEqualsPinLaw", name := "str", desc := "(II)Ljava/lang/String;" } : Jvm.MethodName) method_3_code (4 : Nat) (Option.some (Jvm.ClassFile.FieldType.object "java/lang/String"))).before args0 about1 = true := code_word (m := ⟨1, 2⟩) (meth := k1m2) (c := k1c2) (by decide +kernel) rfl rfl rfl (by decide +kernel)
set_option maxRecDepth 65536 in
theorem w_c9 : (Jvm.Cond.code ({ cls := "com/example/lichen/lichen/model/PolicyIdentifier", name := "<init>", desc := "(Ljava/lang/String;Ljava/lang/String;Ljava/lang/String;)V" } : Jvm.MethodName) prog_143_method_1_code (4 : Nat) (Option.none : Option Jvm.ClassFile.FieldType)).before args0 about1 = true := code_word (m := ⟨2, 0⟩) (meth := k2m0) (c := k2c0) (by decide +kernel) rfl rfl rfl (by decide +kernel)
set_option maxRecDepth 65536 in
theorem w_c10 : (Jvm.Cond.code ({ cls := "com/example/lichen/lichen/model/PolicyIdentifier", name := "requireKind", desc := "(Ljava/lang/String;)Ljava/lang/String;" } : Jvm.MethodName) prog_143_method_2_code (1 : Nat) (Option.some (Jvm.ClassFile.FieldType.object "java/lang/String"))).before args0 about1 = true := code_word (m := ⟨2, 1⟩) (meth := k2m1) (c := k2c1) (by decide +kernel) rfl rfl rfl (by decide +kernel)
set_option maxRecDepth 65536 in
theorem w_c11 : (Jvm.Cond.code ({ cls := "java/lang/String", name := "equals", desc := "(Ljava/lang/Object;)Z" } : Jvm.MethodName) jdk_42_method_66_code (3 : Nat) (Option.some Jvm.ClassFile.FieldType.boolean)).before args0 about1 = true := code_word (m := ⟨8, 2⟩) (meth := k8m2) (c := k8c2) (by decide +kernel) rfl rfl rfl (by decide +kernel)
set_option maxRecDepth 65536 in
theorem w_c12 : (Jvm.Cond.code ({ cls := "java/lang/StringLatin1", name := "equals", desc := "([B[B)Z" } : Jvm.MethodName) jdk_43_method_13_code (3 : Nat) (Option.some Jvm.ClassFile.FieldType.boolean)).before args0 about1 = true := code_word (m := ⟨10, 1⟩) (meth := k10m1) (c := k10c1) (by decide +kernel) rfl rfl rfl (by decide +kernel)
set_option maxRecDepth 65536 in
theorem w_c13 : (Jvm.Cond.code ({ cls := "java/util/Objects", name := "requireNonNull", desc := "(Ljava/lang/Object;Ljava/lang/String;)Ljava/lang/Object;" } : Jvm.MethodName) jdk_31_method_11_code (2 : Nat) (Option.some (Jvm.ClassFile.FieldType.object "java/lang/Object"))).before args0 about1 = true := code_word (m := ⟨11, 1⟩) (meth := k11m1) (c := k11c1) (by decide +kernel) rfl rfl rfl (by decide +kernel)
set_option maxRecDepth 65536 in
theorem w_c14 : (Jvm.Cond.code ({ cls := "com/example/lichen/lichen/model/PolicyIdentifier", name := "equals", desc := "(Ljava/lang/Object;)Z" } : Jvm.MethodName) prog_143_method_6_code (2 : Nat) (Option.some Jvm.ClassFile.FieldType.boolean)).before args0 about1 = true := code_word (m := ⟨2, 2⟩) (meth := k2m2) (c := k2c2) (by decide +kernel) rfl rfl rfl (by decide +kernel)
set_option maxRecDepth 65536 in
theorem w_c15 : (Jvm.Cond.code ({ cls := "com/example/lichen/lichen/model/PolicyIdentifierEqualsPinLaw", name := "same", desc := "(IIII)Z" } : Jvm.MethodName) method_4_code (4 : Nat) (Option.some Jvm.ClassFile.FieldType.boolean)).before args0 about1 = true := code_word (m := ⟨1, 3⟩) (meth := k1m3) (c := k1c3) (by decide +kernel) rfl rfl rfl (by decide +kernel)
def codes1 : List Jvm.Cond := [Jvm.Cond.code x code maxLocals ret, Jvm.Cond.code ({ cls := "com/example/lichen/lichen/model/PolicyIdentifierEqualsPinLaw", name := "kind", desc := "(Z)Ljava/lang/String;" } : Jvm.MethodName) method_2_code (1 : Nat) (Option.some (Jvm.ClassFile.FieldType.object "java/lang/String")), Jvm.Cond.code ({ cls := "java/lang/String", name := "<init>", desc := "([C)V" } : Jvm.MethodName) jdk_42_method_3_code (2 : Nat) (Option.none : Option Jvm.ClassFile.FieldType), Jvm.Cond.code ({ cls := "java/lang/String", name := "<init>", desc := "([CIILjava/lang/Void;)V" } : Jvm.MethodName) jdk_42_method_149_code (6 : Nat) (Option.none : Option Jvm.ClassFile.FieldType), Jvm.Cond.code ({ cls := "java/lang/Object", name := "<init>", desc := "()V" } : Jvm.MethodName) object_method_1_code (1 : Nat) (Option.none : Option Jvm.ClassFile.FieldType), Jvm.Cond.code ({ cls := "java/lang/StringUTF16", name := "compress", desc := "([CII)[B" } : Jvm.MethodName) jdk_52_method_16_code (6 : Nat) (Option.some (Jvm.ClassFile.FieldType.array Jvm.ClassFile.FieldType.byte)), Jvm.Cond.code ({ cls := "java/lang/StringUTF16", name := "compress", desc := "([CI[BII)I" } : Jvm.MethodName) jdk_52_method_21_code (7 : Nat) (Option.some Jvm.ClassFile.FieldType.int), Jvm.Cond.code ({ cls := "java/lang/StringUTF16", name := "coderFromArrayLen", desc := "([BI)B" } : Jvm.MethodName) jdk_52_method_15_code (2 : Nat) (Option.some Jvm.ClassFile.FieldType.byte), Jvm.Cond.code ({ cls := "com/example/lichen/lichen/model/PolicyIdentifierEqualsPinLaw", name := "str", desc := "(II)Ljava/lang/String;" } : Jvm.MethodName) method_3_code (4 : Nat) (Option.some (Jvm.ClassFile.FieldType.object "java/lang/String")), Jvm.Cond.code ({ cls := "com/example/lichen/lichen/model/PolicyIdentifier", name := "<init>", desc := "(Ljava/lang/String;Ljava/lang/String;Ljava/lang/String;)V" } : Jvm.MethodName) prog_143_method_1_code (4 : Nat) (Option.none : Option Jvm.ClassFile.FieldType), Jvm.Cond.code ({ cls := "com/example/lichen/lichen/model/PolicyIdentifier", name := "requireKind", desc := "(Ljava/lang/String;)Ljava/lang/String;" } : Jvm.MethodName) prog_143_method_2_code (1 : Nat) (Option.some (Jvm.ClassFile.FieldType.object "java/lang/String")), Jvm.Cond.code ({ cls := "java/lang/String", name := "equals", desc := "(Ljava/lang/Object;)Z" } : Jvm.MethodName) jdk_42_method_66_code (3 : Nat) (Option.some Jvm.ClassFile.FieldType.boolean), Jvm.Cond.code ({ cls := "java/lang/StringLatin1", name := "equals", desc := "([B[B)Z" } : Jvm.MethodName) jdk_43_method_13_code (3 : Nat) (Option.some Jvm.ClassFile.FieldType.boolean), Jvm.Cond.code ({ cls := "java/util/Objects", name := "requireNonNull", desc := "(Ljava/lang/Object;Ljava/lang/String;)Ljava/lang/Object;" } : Jvm.MethodName) jdk_31_method_11_code (2 : Nat) (Option.some (Jvm.ClassFile.FieldType.object "java/lang/Object")), Jvm.Cond.code ({ cls := "com/example/lichen/lichen/model/PolicyIdentifier", name := "equals", desc := "(Ljava/lang/Object;)Z" } : Jvm.MethodName) prog_143_method_6_code (2 : Nat) (Option.some Jvm.ClassFile.FieldType.boolean), Jvm.Cond.code ({ cls := "com/example/lichen/lichen/model/PolicyIdentifierEqualsPinLaw", name := "same", desc := "(IIII)Z" } : Jvm.MethodName) method_4_code (4 : Nat) (Option.some Jvm.ClassFile.FieldType.boolean)]
set_option maxRecDepth 65536 in
theorem codes_eq : words1.filter isCode = codes1 := rfl
theorem w_codes : ∀ c ∈ words1.filter isCode, c.before args0 about1 = true := by
  rw [codes_eq]
  intro c hc
  simp only [codes1, List.mem_cons, List.not_mem_nil, or_false] at hc
  rcases hc with rfl | rfl | rfl | rfl | rfl | rfl | rfl | rfl | rfl | rfl | rfl | rfl | rfl | rfl | rfl | rfl
  · exact w_c0
  · exact w_c1
  · exact w_c2
  · exact w_c3
  · exact w_c4
  · exact w_c5
  · exact w_c6
  · exact w_c7
  · exact w_c8
  · exact w_c9
  · exact w_c10
  · exact w_c11
  · exact w_c12
  · exact w_c13
  · exact w_c14
  · exact w_c15
set_option maxRecDepth 65536 in
theorem w_t1 : (words1.take 24).all (fun c => isCode c || c.before args0 about1) = true := by decide +kernel
set_option maxRecDepth 65536 in
theorem w_t2 : ((words1.drop 24).take 24).all (fun c => isCode c || c.before args0 about1) = true := by decide +kernel
set_option maxRecDepth 65536 in
theorem w_t3 : (((words1.drop 24).drop 24).take 24).all (fun c => isCode c || c.before args0 about1) = true := by decide +kernel
set_option maxRecDepth 65536 in
theorem w_t4 : (((words1.drop 24).drop 24).drop 24).all (fun c => isCode c || c.before args0 about1) = true := by decide +kernel
theorem w_tables : (allAtoms (Jvm.Cond.code x code maxLocals ret :: tables_1)).before args0 about1 = true := by
  rw [allAtoms_all]
  show words1.all (fun c => c.before args0 about1) = true
  refine all_split ?_ w_codes
  rw [← List.take_append_drop 24 words1, List.all_append, w_t1, ← List.take_append_drop 24 (words1.drop 24), List.all_append, w_t2, ← List.take_append_drop 24 ((words1.drop 24).drop 24), List.all_append, w_t3, w_t4]
  rfl
set_option maxRecDepth 65536 in
theorem w_rest : rest_1_c.before args0 about1 = true := by decide +kernel
set_option maxRecDepth 65536 in
theorem w_case : (Jvm.Cond.and given_1 narrow_1).before args0 about1 = true := by decide +kernel
set_option maxRecDepth 65536 in
theorem w_consts : constsHeld consts_1 about1 := Jvm.Lit.constsHeldB_iff.mp (by decide +kernel)
theorem w_applies : (headSpec (Jvm.Cond.code x code maxLocals ret :: tables_1) room_1).applies x e0.platform about1 = true :=
  (Spec.applies_iff w_frames).mpr ⟨w_running, w_runnable, w_alone, w_named, w_hears, w_ripe, w_room, w_tables⟩
theorem atStart : AtStart classFile x code maxLocals ret World_1 tables_1 room_1 Calls_1 rest_1 Pre_1 launch0 p0 e0 about1 theMethod args0 below0 :=
  ⟨lists_1, trivial, launch0.admits_env _ _ _, launch0.least_env, fairChoices_fair.cas, fairChoices_fair.clock, w_frames, w_args, w_heap, w_applies, ⟨w_consts, trivial⟩, w_rest, w_case⟩
end start1
theorem witness_1 : WitnessClaimed_1 := ⟨start1.p0, start1.e0, start1.about1, start1.theMethod, start1.args0, start1.below0, start1.atStart⟩
end Jvm.Pilot.@@N@@
