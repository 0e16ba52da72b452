import JvmDerived
import JvmDerived.Pilot.@@N@@Statement
import JvmDerived.Pilot.@@N@@Code
set_option linter.unusedVariables false
set_option linter.unusedSimpArgs false
/- laws to paste: Road.backV, Road.eqW, Road.codOf (cut by pick.py; bodies as the Statement names them) -/
namespace Jvm.Pilot.@@N@@
namespace StrChars
open Jvm Sem ClassFile Op Lib Jvm.Stand Jvm.Free.XT Jvm.Free.ALB Jvm.Free.JM Jvm.Free
open Jvm.Lib.Cold (StaticIs)
/-- a char array whose places are chars -/
def Ch (a : Addr) (A : Cell) (U : State) : Prop := Arr .char a A U ∧ Typed .char A
theorem Ch.mv {a : Addr} {A : Cell} {U U' : State} (h : Ch a A U) (hal : U.vm.Alike U'.vm) (hh : U'.heap = U.heap) : Ch a A U' := ⟨h.1.mv hal hh, h.2⟩
theorem Ch.keep {a : Addr} {A : Cell} {U U' : State} (h : Ch a A U) (hal : U.vm.Alike U'.vm) (hk : U'.heap[a]? = some A) : Ch a A U' := ⟨h.1.keep hal hk, h.2⟩
/-- what place i of a char[]'s cell holds -/
def cv (A : Cell) (i : Nat) : Int32 := match A.slots[i]? with | some (.int x) => x | _ => 0
theorem Ch.get {a : Addr} {A : Cell} {U : State} (h : Ch a A U) {i : Nat} (hi : i < A.slots.size) : A.slots[i]? = some (.int (cv A i)) := by
  have e := Array.getElem?_eq_getElem hi
  have f := h.2 i _ e
  unfold cv; rw [e]
  generalize A.slots[i] = v at f
  cases v <;> simp [fits] at f ⊢
/-- the byte that i2b leaves of a char -/
def lo8 (x : Int32) : Int32 := x.toInt8.toInt32
theorem fits_lo8 (y : Int32) : fits .byte (.int (lo8 y)) = true := by
  have h1 := y.toInt8.le_toInt
  have h2 := y.toInt8.toInt_lt
  simp only [lo8, fits, Bool.and_eq_true, decide_eq_true_eq, Int32.le_iff_toInt_le, Int8.toInt_toInt32, show (-128 : Int32).toInt = -128 from by decide, show (127 : Int32).toInt = 127 from by decide]
  omega
/-- A' is A but that each place j of lo .. hi - 1 holds f j -/
def Laid (A A' : Cell) (lo hi : Nat) (f : Nat → Value) : Prop := A'.cls = A.cls ∧ A'.vm = A.vm ∧ A'.slots.size = A.slots.size ∧ ∀ i, A'.slots[i]? = if lo ≤ i ∧ i < hi then some (f i) else A.slots[i]?
theorem Laid.zero (A : Cell) (lo : Nat) (f : Nat → Value) : Laid A A lo (lo + 0) f := ⟨rfl, rfl, rfl, fun i => by rw [if_neg (by omega)]⟩
theorem Laid.step {A Ak : Cell} {lo k : Nat} {f : Nat → Value} {v : Value} (h : Laid A Ak lo k f) (hlo : lo ≤ k) (hk : k < Ak.slots.size) (hv : v = f k) : Laid A (Ak.setSlot k v) lo (k + 1) f := by
  refine ⟨h.1, h.2.1, by simpa [Cell.setSlot] using h.2.2.1, fun i => ?_⟩
  by_cases e : k = i
  · subst e; rw [Cell.slots_setSlot_self v hk, if_pos (by omega), hv]
  · rw [Cell.slots_setSlot_ne v e, h.2.2.2 i]
    by_cases q : lo ≤ i ∧ i < k
    · rw [if_pos q, if_pos (by omega)]
    · rw [if_neg q, if_neg (by omega)]
def U16 : String := "java/lang/StringUTF16"
namespace Cmp5
def yN : MethodName := ⟨"java/lang/StringUTF16", "compress", "([CI[BII)I"⟩
abbrev yB : ByteArray := jdk_52_method_21_code
theorem d0 : decode yB 0 = .ok (.iconst 0, 1) := by decide +kernel
theorem d1 : decode yB 1 = .ok (.istore 5, 2) := by decide +kernel
theorem d3 : decode yB 3 = .ok (.iload 5, 2) := by decide +kernel
theorem d5 : decode yB 5 = .ok (.iload 4, 2) := by decide +kernel
theorem d7 : decode yB 7 = .ok (.if_icmp (.ge) 37, 3) := by decide +kernel
theorem d10 : decode yB 10 = .ok (.aload_n 0, 1) := by decide +kernel
theorem d11 : decode yB 11 = .ok (.iload_n 1, 1) := by decide +kernel
theorem d12 : decode yB 12 = .ok (.caload, 1) := by decide +kernel
theorem d13 : decode yB 13 = .ok (.istore 6, 2) := by decide +kernel
theorem d15 : decode yB 15 = .ok (.iload 6, 2) := by decide +kernel
theorem d17 : decode yB 17 = .ok (.sipush 255, 3) := by decide +kernel
theorem d20 : decode yB 20 = .ok (.if_icmp (.le) 6, 3) := by decide +kernel
theorem d26 : decode yB 26 = .ok (.aload_n 2, 1) := by decide +kernel
theorem d27 : decode yB 27 = .ok (.iload_n 3, 1) := by decide +kernel
theorem d28 : decode yB 28 = .ok (.iload 6, 2) := by decide +kernel
theorem d30 : decode yB 30 = .ok (.i2b, 1) := by decide +kernel
theorem d31 : decode yB 31 = .ok (.bastore, 1) := by decide +kernel
theorem d32 : decode yB 32 = .ok (.iinc 1 1, 3) := by decide +kernel
theorem d35 : decode yB 35 = .ok (.iinc 3 1, 3) := by decide +kernel
theorem d38 : decode yB 38 = .ok (.iinc 5 1, 3) := by decide +kernel
theorem d41 : decode yB 41 = .ok (.goto (-38), 3) := by decide +kernel
theorem d44 : decode yB 44 = .ok (.iload 4, 2) := by decide +kernel
theorem d46 : decode yB 46 = .ok (.ireturn, 1) := by decide +kernel
def site : List Cond := []
def tab : Cond := tabOf yN yB 7 (some .int) site
def P (b : Addr) (A : Cell) (d : Addr) (B : Cell) (o q len : Nat) (args : Array Value) (s : State) : Prop := args = #[.ref b, .int (Int32.ofNat o), .ref d, .int (Int32.ofNat q), .int (Int32.ofNat len)] ∧ Ch b A s ∧ Arr .byte d B s ∧ b ≠ d ∧ o + len ≤ A.slots.size ∧ q + len ≤ B.slots.size ∧ ∀ i, i < len → ¬ 255 < cv A (o + i)
def E (b : Addr) (A : Cell) (d : Addr) (B : Cell) (o q len : Nat) (r : Option Value) (s u : State) : Prop := r = some (.int (Int32.ofNat len)) ∧ ∃ B', Put d B' s u ∧ Laid B B' q (q + len) (fun j => Value.int (lo8 (cv A (o + (j - q)))))
/-- no char of the range above 255: len; the places written hold each char's low byte -/
theorem law (l : Launch) (b : Addr) (A : Cell) (d : Addr) (B : Cell) (o q len : Nat) : Law l yN 5 5 0 0 yB 7 (some .int) site (P b A d B o q len) (E b A d B o q len) (copyLocs d q len) 0 0 := by
  refine Law.of_walk (plainFor_of_name (by decide +kernel)) (by decide +kernel) (by decide +kernel) (by decide) (fun _ _ h => by rw [h.1]; rfl) (fun _ U U' hal hh h => ⟨h.1, h.2.1.mv hal hh, h.2.2.1.mv hal hh, h.2.2.2⟩) (fun r U U' V V' h1 hal h2 h => ⟨h.1, h.2.elim fun B' q => ⟨B', q.1.mv h1 h2, q.2⟩⟩) ?_
  intro p e s m args below meth c s₁ X0 hexec hbytes hml hret hlk hnm hown hh0 W hP
  obtain ⟨rfl, hA, hB, hne, l1, l2, hp⟩ := hP
  have c1 : Steps p.tables e below (s₁.setTop (entryFrame m #[.ref b, .int (Int32.ofNat o), .ref d, .int (Int32.ofNat q), .int (Int32.ofNat len)] 7)) (s₁.setTop (mkF m 0 #[.val (.ref b), .val (.int (Int32.ofNat o)), .val (.ref d), .val (.int (Int32.ofNat q)), .val (.int (Int32.ofNat len)), .unset, .unset] [])) := entry rfl
  have hA0 := hA.1.mv X0.warmed.alike hh0
  have hB0 := hB.mv X0.warmed.alike hh0
  have a31 := hA.1.2.2.2
  have c2 : Steps p.tables e below (s₁.setTop (entryFrame m #[.ref b, .int (Int32.ofNat o), .ref d, .int (Int32.ofNat q), .int (Int32.ofNat len)] 7)) (s₁.setTop (mkF m 3 #[.val (.ref b), .val (.int (Int32.ofNat o)), .val (.ref d), .val (.int (Int32.ofNat q)), .val (.int (Int32.ofNat len)), .val (.int 0), .unset] [])) := c1.trans (by
    refine iconstV X0.here hexec rfl 0 (hb hbytes d0) (by decide) ?_
    refine XS.istore X0.here hexec rfl (hb hbytes d1) rfl rfl ?_
    exact Steps.refl _)
  have loop : ∀ (r i : Nat), i + r = len → ∀ (z : Slot), (z = .unset ∨ ∃ w, z = .val w ∧ w.category = 1) → ∀ (Tl : State) (Bk : Cell), Stand p l e { frames := 0, locals := 0, cells := 0, slots := 0 } s m #[.ref b, .int (Int32.ofNat o), .ref d, .int (Int32.ofNat q), .int (Int32.ofNat len)] below meth c Tl ([] ++ copyLocs d q i) 0 0 → Put d Bk s₁ Tl → Laid B Bk q (q + i) (fun j => Value.int (lo8 (cv A (o + (j - q))))) →
      Steps p.tables e below (s₁.setTop (entryFrame m #[.ref b, .int (Int32.ofNat o), .ref d, .int (Int32.ofNat q), .int (Int32.ofNat len)] 7)) (Tl.setTop (mkF m 3 #[.val (.ref b), .val (.int (Int32.ofNat (o + i))), .val (.ref d), .val (.int (Int32.ofNat (q + i))), .val (.int (Int32.ofNat len)), .val (.int (Int32.ofNat i)), z] [])) → ∃ (T' : State) (B' : Cell) (z' : Slot), Stand p l e { frames := 0, locals := 0, cells := 0, slots := 0 } s m #[.ref b, .int (Int32.ofNat o), .ref d, .int (Int32.ofNat q), .int (Int32.ofNat len)] below meth c T' ([] ++ copyLocs d q len) 0 0 ∧ Put d B' s₁ T' ∧ Laid B B' q (q + len) (fun j => Value.int (lo8 (cv A (o + (j - q))))) ∧
      Steps p.tables e below (s₁.setTop (entryFrame m #[.ref b, .int (Int32.ofNat o), .ref d, .int (Int32.ofNat q), .int (Int32.ofNat len)] 7)) (T'.setTop (mkF m 3 #[.val (.ref b), .val (.int (Int32.ofNat (o + len))), .val (.ref d), .val (.int (Int32.ofNat (q + len))), .val (.int (Int32.ofNat len)), .val (.int (Int32.ofNat len)), z'] [])) := by
    intro r
    induction r with
    | zero =>
      intro i hi z hz Tl Bk Xl pl fl cl
      have hil : i = len := by omega
      rw [hil] at Xl fl cl
      exact ⟨Tl, Bk, z, Xl, pl, fl, cl⟩
    | succ r ih =>
      intro i hi z hz Tl Bk Xl pl fl cl
      have all := X0.warmed.alike.symm.trans Xl.warmed.alike
      have hAl := hA0.keep all (pl.other hne hA0.1)
      have hBk := hB0.like all pl.1 fl.1 fl.2.1 fl.2.2.1
      have hlt : q + i < Bk.slots.size := by rw [fl.2.2.1]; omega
      have c3 : Steps p.tables e below (s₁.setTop (entryFrame m #[.ref b, .int (Int32.ofNat o), .ref d, .int (Int32.ofNat q), .int (Int32.ofNat len)] 7)) (Tl.setTop (mkF m 12 #[.val (.ref b), .val (.int (Int32.ofNat (o + i))), .val (.ref d), .val (.int (Int32.ofNat (q + i))), .val (.int (Int32.ofNat len)), .val (.int (Int32.ofNat i)), z] [.int (Int32.ofNat (o + i)), .ref b])) := cl.trans (by
        refine XS.iload Xl.here hexec rfl (hb hbytes d3) rfl ?_
        refine XS.iload Xl.here hexec rfl (hb hbytes d5) rfl ?_
        refine XS.icmpNo Xl.here hexec rfl (hb hbytes d7) rfl (ii_ge_f (lt32 (by omega) (by omega))) ?_
        refine XS.aloadN Xl.here hexec rfl (hb hbytes d10) rfl rfl ?_
        refine XS.iloadN Xl.here hexec rfl (hb hbytes d11) rfl ?_
        exact Steps.refl _)
      have c4 : Steps p.tables e below (s₁.setTop (entryFrame m #[.ref b, .int (Int32.ofNat o), .ref d, .int (Int32.ofNat q), .int (Int32.ofNat len)] 7)) (Tl.setTop (mkF m 13 #[.val (.ref b), .val (.int (Int32.ofNat (o + i))), .val (.ref d), .val (.int (Int32.ofNat (q + i))), .val (.int (Int32.ofNat len)), .val (.int (Int32.ofNat i)), z] [.int (cv A (o + i))])) := c3.trans (by
        refine Xl.aget hexec hAl rfl (hA.get (i := o + i) (by omega)) rfl rfl (hb hbytes d12) ?_
        exact Steps.refl _)
      have c5 : Steps p.tables e below (s₁.setTop (entryFrame m #[.ref b, .int (Int32.ofNat o), .ref d, .int (Int32.ofNat q), .int (Int32.ofNat len)] 7)) (Tl.setTop (mkF m 15 #[.val (.ref b), .val (.int (Int32.ofNat (o + i))), .val (.ref d), .val (.int (Int32.ofNat (q + i))), .val (.int (Int32.ofNat len)), .val (.int (Int32.ofNat i)), .val (.int (cv A (o + i)))] [])) := c4.trans (by
        refine XS.istoreS Xl.here hexec rfl (hb hbytes d13) rfl rfl hz ?_
        exact Steps.refl _)
      have c6 : Steps p.tables e below (s₁.setTop (entryFrame m #[.ref b, .int (Int32.ofNat o), .ref d, .int (Int32.ofNat q), .int (Int32.ofNat len)] 7)) (Tl.setTop (mkF m 31 #[.val (.ref b), .val (.int (Int32.ofNat (o + i))), .val (.ref d), .val (.int (Int32.ofNat (q + i))), .val (.int (Int32.ofNat len)), .val (.int (Int32.ofNat i)), .val (.int (cv A (o + i)))] [.int (lo8 (cv A (o + i))), .int (Int32.ofNat (q + i)), .ref d])) := c5.trans (by
        refine XS.iload Xl.here hexec rfl (hb hbytes d15) rfl ?_
        refine sipushV Xl.here hexec rfl 255 (hb hbytes d17) (by decide) ?_
        refine XS.icmpYes Xl.here hexec rfl (pc0 := 20) rfl (hb hbytes d20) rfl (ii_le_t (hp i (by omega))) (by decide) rfl ?_
        refine XS.aloadN Xl.here hexec rfl (hb hbytes d26) rfl rfl ?_
        refine XS.iloadN Xl.here hexec rfl (hb hbytes d27) rfl ?_
        refine XS.iload Xl.here hexec rfl (hb hbytes d28) rfl ?_
        refine i2b Xl.here hexec rfl (hb hbytes d30) rfl ?_
        exact Steps.refl _)
      obtain ⟨T7, X7, p7, st7⟩ := Xl.aput hexec hBk rfl hlt rfl (fits_lo8 (cv A (o + i))) (g := (mkF m 31 #[.val (.ref b), .val (.int (Int32.ofNat (o + i))), .val (.ref d), .val (.int (Int32.ofNat (q + i))), .val (.int (Int32.ofNat len)), .val (.int (Int32.ofNat i)), .val (.int (cv A (o + i)))] [.int (lo8 (cv A (o + i))), .int (Int32.ofNat (q + i)), .ref d])) rfl (rest := []) rfl (hb hbytes d31)
      have c8 : Steps p.tables e below (s₁.setTop (entryFrame m #[.ref b, .int (Int32.ofNat o), .ref d, .int (Int32.ofNat q), .int (Int32.ofNat len)] 7)) (T7.setTop (mkF m 32 #[.val (.ref b), .val (.int (Int32.ofNat (o + i))), .val (.ref d), .val (.int (Int32.ofNat (q + i))), .val (.int (Int32.ofNat len)), .val (.int (Int32.ofNat i)), .val (.int (cv A (o + i)))] [])) := c6.trans (st7 _ (Steps.refl _))
      have c9 : Steps p.tables e below (s₁.setTop (entryFrame m #[.ref b, .int (Int32.ofNat o), .ref d, .int (Int32.ofNat q), .int (Int32.ofNat len)] 7)) (T7.setTop (mkF m 3 #[.val (.ref b), .val (.int (Int32.ofNat (o + i) + 1)), .val (.ref d), .val (.int (Int32.ofNat (q + i) + 1)), .val (.int (Int32.ofNat len)), .val (.int (Int32.ofNat i + 1)), .val (.int (cv A (o + i)))] [])) := c8.trans (by
        refine iincV X7.here hexec rfl 1 (hb hbytes d32) (by decide) rfl rfl ?_
        refine iincV X7.here hexec rfl 1 (hb hbytes d35) (by decide) rfl rfl ?_
        refine iincV X7.here hexec rfl 1 (hb hbytes d38) (by decide) rfl rfl ?_
        refine XS.goto X7.here hexec rfl (pc0 := 41) rfl (hb hbytes d41) (by decide) rfl ?_
        exact Steps.refl _)
      have c10 : Steps p.tables e below (s₁.setTop (entryFrame m #[.ref b, .int (Int32.ofNat o), .ref d, .int (Int32.ofNat q), .int (Int32.ofNat len)] 7)) (T7.setTop (mkF m 3 #[.val (.ref b), .val (.int (Int32.ofNat (o + (i + 1)))), .val (.ref d), .val (.int (Int32.ofNat (q + (i + 1)))), .val (.int (Int32.ofNat len)), .val (.int (Int32.ofNat (i + 1))), .val (.int (cv A (o + i)))] [])) := by
        have := c9
        rw [succ32, succ32, succ32] at this
        exact this
      exact ih (i + 1) (by omega) _ (Or.inr ⟨_, rfl, rfl⟩) T7 _ (by rw [copyLocs_step, ← List.append_assoc]; exact X7) (pl.trans p7) (fl.step (by omega) hlt (by simp)) c10
  obtain ⟨T9, B9, z9, X9, p9, f9, g9⟩ := loop len 0 (by omega) .unset (Or.inl rfl) s₁ B (by simpa [copyLocs] using X0) ⟨hB0.1, fun _ _ => rfl, rfl⟩ (Laid.zero _ _ _) c2
  have c11 : Steps p.tables e below (s₁.setTop (entryFrame m #[.ref b, .int (Int32.ofNat o), .ref d, .int (Int32.ofNat q), .int (Int32.ofNat len)] 7)) (T9.setTop (mkF m 46 #[.val (.ref b), .val (.int (Int32.ofNat (o + len))), .val (.ref d), .val (.int (Int32.ofNat (q + len))), .val (.int (Int32.ofNat len)), .val (.int (Int32.ofNat len)), z9] [.int (Int32.ofNat len)])) := g9.trans (by
    refine XS.iload X9.here hexec rfl (hb hbytes d3) rfl ?_
    refine XS.iload X9.here hexec rfl (hb hbytes d5) rfl ?_
    refine XS.icmpYes X9.here hexec rfl (pc0 := 7) rfl (hb hbytes d7) rfl (ii_ge_t (nlt32 (by omega) (Nat.le_refl _))) (by decide) rfl ?_
    refine XS.iload X9.here hexec rfl (hb hbytes d44) rfl ?_
    exact Steps.refl _)
  exact ⟨T9, some (.int (Int32.ofNat len)), _, _, _, X9, by simp, rfl, rfl, (fun h => by cases h), ⟨rfl, B9, p9.from hh0, f9⟩, fun fs hl => c11.trans (X9.ireturnOut hexec hret rfl (Or.inl rfl) (hb hbytes d46) hl)⟩
end Cmp5
namespace Cmp3
def yN : MethodName := ⟨"java/lang/StringUTF16", "compress", "([CII)[B"⟩
abbrev yB : ByteArray := jdk_52_method_16_code
theorem d0 : decode yB 0 = .ok (.iload_n 2, 1) := by decide +kernel
theorem d1 : decode yB 1 = .ok (.newarray .byte, 2) := by decide +kernel
theorem d3 : decode yB 3 = .ok (.astore_n 3, 1) := by decide +kernel
theorem d4 : decode yB 4 = .ok (.aload_n 0, 1) := by decide +kernel
theorem d5 : decode yB 5 = .ok (.iload_n 1, 1) := by decide +kernel
theorem d6 : decode yB 6 = .ok (.aload_n 3, 1) := by decide +kernel
theorem d7 : decode yB 7 = .ok (.iconst 0, 1) := by decide +kernel
theorem d8 : decode yB 8 = .ok (.iload_n 2, 1) := by decide +kernel
theorem d9 : decode yB 9 = .ok (.invokestatic 115, 3) := by decide +kernel
theorem d12 : decode yB 12 = .ok (.istore 4, 2) := by decide +kernel
theorem d14 : decode yB 14 = .ok (.iload 4, 2) := by decide +kernel
theorem d16 : decode yB 16 = .ok (.iload_n 2, 1) := by decide +kernel
theorem d17 : decode yB 17 = .ok (.if_icmp (.eq) 40, 3) := by decide +kernel
theorem d57 : decode yB 57 = .ok (.aload_n 3, 1) := by decide +kernel
theorem d58 : decode yB 58 = .ok (.areturn, 1) := by decide +kernel
def site : List Cond := [.arrayClass .byte, Cmp5.tab] ++ staticW U16 115 Cmp5.yN
def tab : Cond := tabOf yN yB 6 (some (.array .byte)) site
def P (b : Addr) (A : Cell) (o len : Nat) (args : Array Value) (s : State) : Prop := args = #[.ref b, .int (Int32.ofNat o), .int (Int32.ofNat len)] ∧ Ch b A s ∧ o + len ≤ A.slots.size ∧ len ≤ 536870912 ∧ ∀ i, i < len → ¬ 255 < cv A (o + i)
def E (b : Addr) (A : Cell) (o len : Nat) (r : Option Value) (s u : State) : Prop := NewArr .byte "[B" len (fun j => .int (lo8 (cv A (o + j)))) r s u ∧ u.heap.size = s.heap.size + 1
/-- no char of the range above 255: a new byte[] of their low bytes -/
theorem law (l : Launch) (b : Addr) (A : Cell) (o len : Nat) : Law l yN 3 3 1 18 yB 6 (some (.array .byte)) site (P b A o len) (E b A o len) [] 1 len := by
  refine Law.of_walk (plainFor_of_name (by decide +kernel)) (by decide +kernel) (by decide +kernel) (by decide) (fun _ _ h => by rw [h.1]; rfl) (fun _ U U' hal hh h => ⟨h.1, h.2.1.mv hal hh, h.2.2⟩) (fun r U U' V V' h1 hal h2 h => ⟨NewArr.mv r U U' V V' h1 hal h2 h.1, by rw [h1, h2]; exact h.2⟩) ?_
  intro p e s m args below meth c s₁ X0 hexec hbytes hml hret hlk hnm hown hh0 W hP
  obtain ⟨rfl, hA, l1, l2, hp⟩ := hP
  have a31 := hA.1.2.2.2
  have c1 : Steps p.tables e below (s₁.setTop (entryFrame m #[.ref b, .int (Int32.ofNat o), .int (Int32.ofNat len)] 6)) (s₁.setTop (mkF m 0 #[.val (.ref b), .val (.int (Int32.ofNat o)), .val (.int (Int32.ofNat len)), .unset, .unset, .unset] [])) := entry rfl
  have c2 : Steps p.tables e below (s₁.setTop (entryFrame m #[.ref b, .int (Int32.ofNat o), .int (Int32.ofNat len)] 6)) (s₁.setTop (mkF m 1 #[.val (.ref b), .val (.int (Int32.ofNat o)), .val (.int (Int32.ofNat len)), .unset, .unset, .unset] [.int (Int32.ofNat len)])) := c1.trans (by
    refine XS.iloadN X0.here hexec rfl (hb hbytes d0) rfl ?_
    exact Steps.refl _)
  obtain ⟨T3, B3, X3, ba3, bs3, bv3, bh3, bf3, st3⟩ := X0.anew hexec (atype := .byte) (wk W (.arrayClass .byte)) rfl (by show len * 1 ≤ _; omega) (by omega) (g := (mkF m 1 #[.val (.ref b), .val (.int (Int32.ofNat o)), .val (.int (Int32.ofNat len)), .unset, .unset, .unset] [.int (Int32.ofNat len)])) rfl (hb hbytes d1) (rest := []) rfl (Nat.le_refl _) (by show 0 + len ≤ len; omega)
  rw [hh0] at ba3 st3
  have kp3 : XT.Kept s T3 := (XT.Kept.of_eq hh0).push bh3
  have hA3 := hA.keep X3.warmed.alike (kp3 _ _ hA.1.1)
  have hne : b ≠ s.heap.size := hA.1.ne
  have c4 : Steps p.tables e below (s₁.setTop (entryFrame m #[.ref b, .int (Int32.ofNat o), .int (Int32.ofNat len)] 6)) (T3.setTop (mkF m 3 #[.val (.ref b), .val (.int (Int32.ofNat o)), .val (.int (Int32.ofNat len)), .unset, .unset, .unset] [.ref s.heap.size])) := c2.trans (st3 _ (Steps.refl _))
  have c5 : Steps p.tables e below (s₁.setTop (entryFrame m #[.ref b, .int (Int32.ofNat o), .int (Int32.ofNat len)] 6)) (T3.setTop (mkF m 9 #[.val (.ref b), .val (.int (Int32.ofNat o)), .val (.int (Int32.ofNat len)), .val (.ref s.heap.size), .unset, .unset] [.int (Int32.ofNat len), .int 0, .ref s.heap.size, .int (Int32.ofNat o), .ref b])) := c4.trans (by
    refine XS.astoreN X3.here hexec rfl (hb hbytes d3) rfl rfl rfl ?_
    refine XS.aloadN X3.here hexec rfl (hb hbytes d4) rfl rfl ?_
    refine XS.iloadN X3.here hexec rfl (hb hbytes d5) rfl ?_
    refine XS.aloadN X3.here hexec rfl (hb hbytes d6) rfl rfl ?_
    refine iconstV X3.here hexec rfl 0 (hb hbytes d7) (by decide) ?_
    refine XS.iloadN X3.here hexec rfl (hb hbytes d8) rfl ?_
    exact Steps.refl _)
  obtain ⟨v6, T6, X6, E6, g6⟩ := X3.callS hexec (Cmp5.law l b A s.heap.size B3 o 0 len) hown (wks W (staticW U16 115 Cmp5.yN)) (wk W Cmp5.tab) (W := 0) (Nat.le_of_ble_eq_true rfl) (Nat.le_of_ble_eq_true rfl) (Nat.le_refl _) (by show 0 + len + 0 ≤ len; omega) (g := (mkF m 9 #[.val (.ref b), .val (.int (Int32.ofNat o)), .val (.int (Int32.ofNat len)), .val (.ref s.heap.size), .unset, .unset] [.int (Int32.ofNat len), .int (Int32.ofNat 0), .ref s.heap.size, .int (Int32.ofNat o), .ref b])) rfl (by rw [hml]; rfl) c5 (argsL := [.ref b, .int (Int32.ofNat o), .ref s.heap.size, .int (Int32.ofNat 0), .int (Int32.ofNat len)]) (rest := []) rfl rfl (by show 2 * 0 + 0 ≤ _; decide) (hb hbytes d9) (⟨rfl, hA3, ba3, hne, l1, by rw [bs3]; simp, hp⟩)
  obtain ⟨rfl, B6, p6, f6⟩ := E6
  have c7 : Steps p.tables e below (s₁.setTop (entryFrame m #[.ref b, .int (Int32.ofNat o), .int (Int32.ofNat len)] 6)) (T6.setTop (mkF m 12 #[.val (.ref b), .val (.int (Int32.ofNat o)), .val (.int (Int32.ofNat len)), .val (.ref s.heap.size), .unset, .unset] [.int (Int32.ofNat len)])) := g6
  have c8 : Steps p.tables e below (s₁.setTop (entryFrame m #[.ref b, .int (Int32.ofNat o), .int (Int32.ofNat len)] 6)) (T6.setTop (mkF m 58 #[.val (.ref b), .val (.int (Int32.ofNat o)), .val (.int (Int32.ofNat len)), .val (.ref s.heap.size), .val (.int (Int32.ofNat len)), .unset] [.ref s.heap.size])) := c7.trans (by
    refine XS.istore X6.here hexec rfl (hb hbytes d12) rfl rfl ?_
    refine XS.iload X6.here hexec rfl (hb hbytes d14) rfl ?_
    refine XS.iloadN X6.here hexec rfl (hb hbytes d16) rfl ?_
    refine XS.icmpYes X6.here hexec rfl (pc0 := 17) rfl (hb hbytes d17) rfl (ii_eq_t rfl) (by decide) rfl ?_
    refine XS.aloadN X6.here hexec rfl (hb hbytes d57) rfl rfl ?_
    exact Steps.refl _)
  have X8 := X6.wide (L' := []) (cells' := 1) (slots' := len) (fun x hx hlt => by
    simp only [List.nil_append, copyLocs, List.mem_map, List.mem_range] at hx
    obtain ⟨i, -, rfl⟩ := hx
    exact absurd hlt (Nat.lt_irrefl _)) (Nat.le_refl _) (by omega)
  exact ⟨T6, some (.ref s.heap.size), _, _, _, X8, rfl, rfl, rfl, (fun h => by cases h), ⟨⟨rfl, B6, ba3.like (X3.warmed.alike.symm.trans X6.warmed.alike) p6.1 f6.1 f6.2.1 f6.2.2.1, f6.2.1.trans bv3, by rw [X6.warmed.alike.findClass, f6.1]; exact bf3, by rw [f6.2.2.1, bs3]; simp, fun j hj => by rw [f6.2.2.2 j, if_pos (by omega)]; rfl, kp3.put p6 (Nat.le_refl _)⟩, by rw [p6.2.2, bh3, hh0]; simp⟩, fun fs hl => c8.trans (X8.areturnOut hexec rfl hret rfl (hb hbytes d58) hl)⟩
end Cmp3
namespace CodL
def yN : MethodName := ⟨"java/lang/StringUTF16", "coderFromArrayLen", "([BI)B"⟩
abbrev yB : ByteArray := jdk_52_method_15_code
theorem d0 : decode yB 0 = .ok (.iload_n 1, 1) := by decide +kernel
theorem d1 : decode yB 1 = .ok (.aload_n 0, 1) := by decide +kernel
theorem d2 : decode yB 2 = .ok (.arraylength, 1) := by decide +kernel
theorem d3 : decode yB 3 = .ok (.isub, 1) := by decide +kernel
theorem d4 : decode yB 4 = .ok (.bipush 31, 2) := by decide +kernel
theorem d6 : decode yB 6 = .ok (.iushr, 1) := by decide +kernel
theorem d7 : decode yB 7 = .ok (.i2b, 1) := by decide +kernel
theorem d8 : decode yB 8 = .ok (.ireturn, 1) := by decide +kernel
def site : List Cond := []
def tab : Cond := tabOf yN yB 2 (some .byte) site
def P (d : Addr) (B : Cell) (args : Array Value) (s : State) : Prop := args = #[.ref d, .int (Int32.ofNat B.slots.size)] ∧ Arr .byte d B s
def E (r : Option Value) (s u : State) : Prop := XT.PureE (some (.int 0)) r s u
/-- an array as long as the number of chars: LATIN1 -/
theorem law (l : Launch) (d : Addr) (B : Cell) : Law l yN 2 2 0 0 yB 2 (some .byte) site (P d B) E [] 0 0 := by
  refine Law.of_walk (plainFor_of_name (by decide +kernel)) (by decide +kernel) (by decide +kernel) (by decide) (fun _ _ h => by rw [h.1]; rfl) (fun _ U U' hal hh h => ⟨h.1, h.2.mv hal hh⟩) (fun r U U' V V' h1 hal h2 h => XT.PureE.mv r U U' V V' h1 hal h2 h) ?_
  intro p e s m args below meth c s₁ X0 hexec hbytes hml hret hlk hnm hown hh0 W hP
  obtain ⟨rfl, hB⟩ := hP
  have hB0 := hB.mv X0.warmed.alike hh0
  have c1 : Steps p.tables e below (s₁.setTop (entryFrame m #[.ref d, .int (Int32.ofNat B.slots.size)] 2)) (s₁.setTop (mkF m 0 #[.val (.ref d), .val (.int (Int32.ofNat B.slots.size))] [])) := entry rfl
  have c2 : Steps p.tables e below (s₁.setTop (entryFrame m #[.ref d, .int (Int32.ofNat B.slots.size)] 2)) (s₁.setTop (mkF m 2 #[.val (.ref d), .val (.int (Int32.ofNat B.slots.size))] [.ref d, .int (Int32.ofNat B.slots.size)])) := c1.trans (by
    refine XS.iloadN X0.here hexec rfl (hb hbytes d0) rfl ?_
    refine XS.aloadN X0.here hexec rfl (hb hbytes d1) rfl rfl ?_
    exact Steps.refl _)
  have c3 : Steps p.tables e below (s₁.setTop (entryFrame m #[.ref d, .int (Int32.ofNat B.slots.size)] 2)) (s₁.setTop (mkF m 8 #[.val (.ref d), .val (.int (Int32.ofNat B.slots.size))] [.int (lo8 (ushr (Int32.ofNat B.slots.size - Int32.ofNat B.slots.size) 31))])) := c2.trans (by
    refine X0.alen hexec hB0 rfl rfl (hb hbytes d2) ?_
    refine XS.isub X0.here hexec rfl (hb hbytes d3) rfl ?_
    refine bipushV X0.here hexec rfl 31 (hb hbytes d4) (by decide) ?_
    refine iushr X0.here hexec rfl (hb hbytes d6) rfl ?_
    refine i2b X0.here hexec rfl (hb hbytes d7) rfl ?_
    exact Steps.refl _)
  have e0 : lo8 (ushr (Int32.ofNat B.slots.size - Int32.ofNat B.slots.size) 31) = 0 := by rw [Int32.sub_self]; decide
  rw [e0] at c3
  exact ⟨s₁, some (.int 0), _, _, _, X0, rfl, rfl, rfl, (fun h => by cases h), ⟨rfl, hh0⟩, fun fs hl => c3.trans (X0.ireturnOut hexec hret rfl (Or.inr (Or.inr (Or.inl rfl))) (hb hbytes d8) hl)⟩
end CodL
/-- the String at a is Latin-1 over a new byte[] (the heap's one new cell): the low bytes of the len chars of A from o on; every cell but a is kept -/
def Got (a : Addr) (D : Cell) (fV fC : Field) (A : Cell) (o len : Nat) (r : Option Value) (s u : State) : Prop := r = none ∧ ∃ D' V : Cell, Blank "java/lang/String" a D' u ∧ Same D D' [fV.slot, fC.slot] ∧ D'.slots[fV.slot]? = some (.ref s.heap.size) ∧ D'.slots[fC.slot]? = some (.int 0) ∧ Arr .byte s.heap.size V u ∧ V.vm = .none ∧ u.vm.findClass "[B" = some V.cls ∧ V.slots.size = len ∧ (∀ j, j < len → V.slots[j]? = some (.int (lo8 (cv A (o + j))))) ∧ (∀ (y : Addr) (c : Cell), y ≠ a → s.heap[y]? = some c → u.heap[y]? = some c) ∧ u.heap.size = s.heap.size + 1
theorem Got.mv {a : Addr} {D A : Cell} {fV fC : Field} {o len : Nat} : ∀ r (U U' V V' : State), U'.heap = U.heap → V.vm.Alike V'.vm → V'.heap = V.heap → Got a D fV fC A o len r U V → Got a D fV fC A o len r U' V' :=
  fun r U U' V V' h1 hal h2 ⟨e0, D', X, a1, a2, a3, a4, a5, a6, a7, a8, a9, a10, a11⟩ => ⟨e0, D', X, a1.mv hal h2, a2, by rw [h1]; exact a3, a4, by rw [h1]; exact a5.mv hal h2, a6, by rw [hal.findClass]; exact a7, a8, a9, by rw [h1, h2]; exact a10, by rw [h1, h2]; exact a11⟩
namespace New4
def yN : MethodName := ⟨"java/lang/String", "<init>", "([CIILjava/lang/Void;)V"⟩
abbrev yB : ByteArray := jdk_42_method_149_code
theorem d0 : decode yB 0 = .ok (.aload_n 0, 1) := by decide +kernel
theorem d1 : decode yB 1 = .ok (.invokespecial 1, 3) := by decide +kernel
theorem d4 : decode yB 4 = .ok (.iload_n 3, 1) := by decide +kernel
theorem d5 : decode yB 5 = .ok (.ifCond (.ne) 22, 3) := by decide +kernel
theorem d27 : decode yB 27 = .ok (.getstatic 38, 3) := by decide +kernel
theorem d30 : decode yB 30 = .ok (.ifCond (.eq) 28, 3) := by decide +kernel
theorem d33 : decode yB 33 = .ok (.aload_n 1, 1) := by decide +kernel
theorem d34 : decode yB 34 = .ok (.iload_n 2, 1) := by decide +kernel
theorem d35 : decode yB 35 = .ok (.iload_n 3, 1) := by decide +kernel
theorem d36 : decode yB 36 = .ok (.invokestatic 177, 3) := by decide +kernel
theorem d39 : decode yB 39 = .ok (.astore 5, 2) := by decide +kernel
theorem d41 : decode yB 41 = .ok (.aload_n 0, 1) := by decide +kernel
theorem d42 : decode yB 42 = .ok (.aload 5, 2) := by decide +kernel
theorem d44 : decode yB 44 = .ok (.iload_n 3, 1) := by decide +kernel
theorem d45 : decode yB 45 = .ok (.invokestatic 47, 3) := by decide +kernel
theorem d48 : decode yB 48 = .ok (.putfield 15, 3) := by decide +kernel
theorem d51 : decode yB 51 = .ok (.aload_n 0, 1) := by decide +kernel
theorem d52 : decode yB 52 = .ok (.aload 5, 2) := by decide +kernel
theorem d54 : decode yB 54 = .ok (.putfield 9, 3) := by decide +kernel
theorem d57 : decode yB 57 = .ok (.return_, 1) := by decide +kernel
def site : List Cond := [.fieldLink "java/lang/String" 38 "java/lang/String" "COMPACT_STRINGS" "Z", Cmp3.tab, CodL.tab, .laysFinal "java/lang/String" "java/lang/String" "value" "[B", .fieldLink "java/lang/String" 9 "java/lang/String" "value" "[B", .laysFinal "java/lang/String" "java/lang/String" "coder" "B", .fieldLink "java/lang/String" 15 "java/lang/String" "coder" "B"] ++ objW "java/lang/String" 1 ++ staticW "java/lang/String" 177 Cmp3.yN ++ staticW "java/lang/String" 47 CodL.yN
def tab : Cond := tabOf yN yB 6 none site
def P (a : Addr) (D : Cell) (fV fC : Field) (b : Addr) (A : Cell) (z : Int32) (o len : Nat) (args : Array Value) (s : State) : Prop := args = #[.ref a, .ref b, .int (Int32.ofNat o), .int (Int32.ofNat len), .null] ∧ Blank "java/lang/String" a D s ∧ Found "java/lang/String" "value" "[B" fV s ∧ Found "java/lang/String" "coder" "B" fC s ∧ Ch b A s ∧ StaticIs s "java/lang/String" "COMPACT_STRINGS" "Z" (.int z) ∧ ¬ z = 0 ∧ 0 < len ∧ o + len ≤ A.slots.size ∧ len ≤ 536870912 ∧ ∀ i, i < len → ¬ 255 < cv A (o + i)
def E (a : Addr) (D : Cell) (fV fC : Field) (A : Cell) (o len : Nat) (r : Option Value) (s u : State) : Prop := Got a D fV fC A o len r s u
/-- len > 0, no char of the range above 255: a Latin-1 String of their low bytes -/
theorem law (l : Launch) (a : Addr) (D : Cell) (fV fC : Field) (b : Addr) (A : Cell) (z : Int32) (o len : Nat) : Law l yN 5 4 2 35 yB 6 none site (P a D fV fC b A z o len) (E a D fV fC A o len) [⟨a, fC.slot⟩, ⟨a, fV.slot⟩] 1 len := by
  refine Law.of_walk (plainFor_of_name (by decide +kernel)) (by decide +kernel) (by decide +kernel) (by decide) (fun _ _ h => by rw [h.1]; rfl) (fun _ U U' hal hh h => ⟨h.1, h.2.1.mv hal hh, h.2.2.1.al hal, h.2.2.2.1.al hal, h.2.2.2.2.1.mv hal hh, h.2.2.2.2.2.1.there hal hh, h.2.2.2.2.2.2⟩) (fun r U U' V V' h1 hal h2 h => Got.mv r U U' V V' h1 hal h2 h) ?_
  intro p e s m args below meth c s₁ X0 hexec hbytes hml hret hlk hnm hown hh0 W hP
  obtain ⟨rfl, hB, f1, f2, hA, s1, hz, l0, l1, l2, hp⟩ := hP
  have a31 := hA.1.2.2.2
  have c1 : Steps p.tables e below (s₁.setTop (entryFrame m #[.ref a, .ref b, .int (Int32.ofNat o), .int (Int32.ofNat len), .null] 6)) (s₁.setTop (mkF m 0 #[.val (.ref a), .val (.ref b), .val (.int (Int32.ofNat o)), .val (.int (Int32.ofNat len)), .val .null, .unset] [])) := entry rfl
  have c2 : Steps p.tables e below (s₁.setTop (entryFrame m #[.ref a, .ref b, .int (Int32.ofNat o), .int (Int32.ofNat len), .null] 6)) (s₁.setTop (mkF m 1 #[.val (.ref a), .val (.ref b), .val (.int (Int32.ofNat o)), .val (.int (Int32.ofNat len)), .val .null, .unset] [.ref a])) := c1.trans (by
    refine XS.aloadN X0.here hexec rfl (hb hbytes d0) rfl rfl ?_
    exact Steps.refl _)
  obtain ⟨T3, X3, q3, st3⟩ := X0.oinit hexec hown (wks W (objW "java/lang/String" 1)) (g := (mkF m 1 #[.val (.ref a), .val (.ref b), .val (.int (Int32.ofNat o)), .val (.int (Int32.ofNat len)), .val .null, .unset] [.ref a])) rfl (by rw [hml]; rfl) (rest := []) rfl (hb hbytes d1) (W := 0) (by show 2 * 0 + 0 ≤ _; decide) (Nat.le_of_ble_eq_true rfl) (Nat.le_of_ble_eq_true rfl)
  have hh3 := q3.trans hh0
  have c4 : Steps p.tables e below (s₁.setTop (entryFrame m #[.ref a, .ref b, .int (Int32.ofNat o), .int (Int32.ofNat len), .null] 6)) (T3.setTop (mkF m 27 #[.val (.ref a), .val (.ref b), .val (.int (Int32.ofNat o)), .val (.int (Int32.ofNat len)), .val .null, .unset] [])) := (c2.trans (st3 _ (Steps.refl _))).trans (by
    refine XS.iloadN X3.here hexec rfl (hb hbytes d4) rfl ?_
    refine XS.ifYes X3.here hexec rfl (pc0 := 5) rfl (hb hbytes d5) rfl (i0_ne_t (nz32 (by omega) l0)) (by decide) rfl ?_
    exact Steps.refl _)
  obtain ⟨T5, X5, q5, st5⟩ := X3.sget hexec hown (wk W (.fieldLink "java/lang/String" 38 "java/lang/String" "COMPACT_STRINGS" "Z")) s1 (fun _ _ h => by rw [hh3]; exact h) (g := (mkF m 27 #[.val (.ref a), .val (.ref b), .val (.int (Int32.ofNat o)), .val (.int (Int32.ofNat len)), .val .null, .unset] [])) rfl (hb hbytes d27)
  have hh5 := q5.trans hh3
  have c6 : Steps p.tables e below (s₁.setTop (entryFrame m #[.ref a, .ref b, .int (Int32.ofNat o), .int (Int32.ofNat len), .null] 6)) (T5.setTop (mkF m 30 #[.val (.ref a), .val (.ref b), .val (.int (Int32.ofNat o)), .val (.int (Int32.ofNat len)), .val .null, .unset] [.int z])) := c4.trans (st5 _ (Steps.refl _))
  have c7 : Steps p.tables e below (s₁.setTop (entryFrame m #[.ref a, .ref b, .int (Int32.ofNat o), .int (Int32.ofNat len), .null] 6)) (T5.setTop (mkF m 36 #[.val (.ref a), .val (.ref b), .val (.int (Int32.ofNat o)), .val (.int (Int32.ofNat len)), .val .null, .unset] [.int (Int32.ofNat len), .int (Int32.ofNat o), .ref b])) := c6.trans (by
    refine XS.ifNo X5.here hexec rfl (hb hbytes d30) rfl (i0_eq_f hz) ?_
    refine XS.aloadN X5.here hexec rfl (hb hbytes d33) rfl rfl ?_
    refine XS.iloadN X5.here hexec rfl (hb hbytes d34) rfl ?_
    refine XS.iloadN X5.here hexec rfl (hb hbytes d35) rfl ?_
    exact Steps.refl _)
  obtain ⟨v8, T8, X8, E8, g8⟩ := X5.callS hexec (Cmp3.law l b A o len) hown (wks W (staticW "java/lang/String" 177 Cmp3.yN)) (wk W Cmp3.tab) (W := 0) (Nat.le_of_ble_eq_true rfl) (Nat.le_of_ble_eq_true rfl) (Nat.le_refl _) (by show 0 + len ≤ len; omega) (g := (mkF m 36 #[.val (.ref a), .val (.ref b), .val (.int (Int32.ofNat o)), .val (.int (Int32.ofNat len)), .val .null, .unset] [.int (Int32.ofNat len), .int (Int32.ofNat o), .ref b])) rfl (by rw [hml]; rfl) c7 (argsL := [.ref b, .int (Int32.ofNat o), .int (Int32.ofNat len)]) (rest := []) rfl rfl (by show 2 * 0 + 0 ≤ _; decide) (hb hbytes d36) (⟨rfl, hA.mv X5.warmed.alike hh5, l1, l2, hp⟩)
  obtain ⟨e8, z8⟩ := E8
  obtain ⟨rfl, N, n1, n2, n3, n4, n5, n6⟩ := NewArr.mv _ T5 s _ _ hh5.symm (Vm.Alike.refl _) rfl e8
  rw [hh5] at z8
  have hB1 := hB.keep X8.warmed.alike (n6 _ _ hB.1)
  have hne : s.heap.size ≠ a := (Nat.ne_of_lt (Array.getElem?_eq_some_iff.mp hB.1).1).symm
  have c9 : Steps p.tables e below (s₁.setTop (entryFrame m #[.ref a, .ref b, .int (Int32.ofNat o), .int (Int32.ofNat len), .null] 6)) (T8.setTop (mkF m 39 #[.val (.ref a), .val (.ref b), .val (.int (Int32.ofNat o)), .val (.int (Int32.ofNat len)), .val .null, .unset] [.ref s.heap.size])) := g8
  have c10 : Steps p.tables e below (s₁.setTop (entryFrame m #[.ref a, .ref b, .int (Int32.ofNat o), .int (Int32.ofNat len), .null] 6)) (T8.setTop (mkF m 45 #[.val (.ref a), .val (.ref b), .val (.int (Int32.ofNat o)), .val (.int (Int32.ofNat len)), .val .null, .val (.ref s.heap.size)] [.int (Int32.ofNat N.slots.size), .ref s.heap.size, .ref a])) := by
    have hc : Steps p.tables e below (s₁.setTop (entryFrame m #[.ref a, .ref b, .int (Int32.ofNat o), .int (Int32.ofNat len), .null] 6)) (T8.setTop (mkF m 45 #[.val (.ref a), .val (.ref b), .val (.int (Int32.ofNat o)), .val (.int (Int32.ofNat len)), .val .null, .val (.ref s.heap.size)] [.int (Int32.ofNat len), .ref s.heap.size, .ref a])) := c9.trans (by
      refine XS.astore X8.here hexec rfl (hb hbytes d39) rfl rfl rfl ?_
      refine XS.aloadN X8.here hexec rfl (hb hbytes d41) rfl rfl ?_
      refine XS.aload X8.here hexec rfl (hb hbytes d42) rfl rfl ?_
      refine XS.iloadN X8.here hexec rfl (hb hbytes d44) rfl ?_
      exact Steps.refl _)
    rw [n4]; exact hc
  obtain ⟨v11, T11, X11, E11, g11⟩ := X8.callS hexec (CodL.law l s.heap.size N) hown (wks W (staticW "java/lang/String" 47 CodL.yN)) (wk W CodL.tab) (W := 1) (Nat.le_of_ble_eq_true rfl) (Nat.le_of_ble_eq_true rfl) (Nat.le_refl _) (by show 0 + len + 0 ≤ len; omega) (g := (mkF m 45 #[.val (.ref a), .val (.ref b), .val (.int (Int32.ofNat o)), .val (.int (Int32.ofNat len)), .val .null, .val (.ref s.heap.size)] [.int (Int32.ofNat N.slots.size), .ref s.heap.size, .ref a])) rfl (by rw [hml]; rfl) c10 (argsL := [.ref s.heap.size, .int (Int32.ofNat N.slots.size)]) (rest := [.ref a]) rfl rfl (by show 2 * 0 + (1 + 0) ≤ _; decide) (hb hbytes d45) (⟨rfl, n1⟩)
  obtain ⟨rfl, q11⟩ := E11
  have hB11 := hB1.mv (X8.warmed.alike.symm.trans X11.warmed.alike) q11
  have c12 : Steps p.tables e below (s₁.setTop (entryFrame m #[.ref a, .ref b, .int (Int32.ofNat o), .int (Int32.ofNat len), .null] 6)) (T11.setTop (mkF m 48 #[.val (.ref a), .val (.ref b), .val (.int (Int32.ofNat o)), .val (.int (Int32.ofNat len)), .val .null, .val (.ref s.heap.size)] [.int 0, .ref a])) := g11
  obtain ⟨T13, X13, p13, bl13, sl13, st13⟩ := X11.finit hexec hown (wk W (.fieldLink "java/lang/String" 15 "java/lang/String" "coder" "B")) (Or.inr ⟨_, (wk W (.laysFinal "java/lang/String" "java/lang/String" "coder" "B"))⟩) (Or.inl ⟨rfl, hnm⟩) f2 (Or.inl rfl) hB11 (t := .byte) (by decide +kernel) rfl (g := (mkF m 48 #[.val (.ref a), .val (.ref b), .val (.int (Int32.ofNat o)), .val (.int (Int32.ofNat len)), .val .null, .val (.ref s.heap.size)] [.int 0, .ref a])) rfl (rest := []) rfl (hb hbytes d48)
  have c14 : Steps p.tables e below (s₁.setTop (entryFrame m #[.ref a, .ref b, .int (Int32.ofNat o), .int (Int32.ofNat len), .null] 6)) (T13.setTop (mkF m 54 #[.val (.ref a), .val (.ref b), .val (.int (Int32.ofNat o)), .val (.int (Int32.ofNat len)), .val .null, .val (.ref s.heap.size)] [.ref s.heap.size, .ref a])) := (c12.trans (st13 _ (Steps.refl _))).trans (by
    refine XS.aloadN X13.here hexec rfl (hb hbytes d51) rfl rfl ?_
    refine XS.aload X13.here hexec rfl (hb hbytes d52) rfl rfl ?_
    exact Steps.refl _)
  obtain ⟨T15, X15, p15, bl15, sl15, st15⟩ := X13.finit hexec hown (wk W (.fieldLink "java/lang/String" 9 "java/lang/String" "value" "[B")) (Or.inr ⟨_, (wk W (.laysFinal "java/lang/String" "java/lang/String" "value" "[B"))⟩) (Or.inl ⟨rfl, hnm⟩) f1 (Or.inl rfl) bl13 (t := (.array .byte)) (by decide +kernel) rfl (g := (mkF m 54 #[.val (.ref a), .val (.ref b), .val (.int (Int32.ofNat o)), .val (.int (Int32.ofNat len)), .val .null, .val (.ref s.heap.size)] [.ref s.heap.size, .ref a])) rfl (rest := []) rfl (hb hbytes d54)
  have c16 : Steps p.tables e below (s₁.setTop (entryFrame m #[.ref a, .ref b, .int (Int32.ofNat o), .int (Int32.ofNat len), .null] 6)) (T15.setTop (mkF m 57 #[.val (.ref a), .val (.ref b), .val (.int (Int32.ofNat o)), .val (.int (Int32.ofNat len)), .val .null, .val (.ref s.heap.size)] [])) := c14.trans (st15 _ (Steps.refl _))
  have ap := apart (Or.inr ⟨_, (wk W (.laysFinal "java/lang/String" "java/lang/String" "value" "[B"))⟩) (Or.inr ⟨_, (wk W (.laysFinal "java/lang/String" "java/lang/String" "coder" "B"))⟩) f1 f2 (t₁ := .array .byte) (t₂ := .byte) (by decide +kernel) (by decide +kernel) (by decide)
  have al := X8.warmed.alike.symm.trans X15.warmed.alike
  have n7 : T11.heap[s.heap.size]? = some N := by rw [q11]; exact n1.1
  exact ⟨T15, none, _, _, _, X15, by simp, rfl, by omega, (fun _ => rfl), ⟨rfl, _, N, bl15, ((Same.refl D _).set _ (by simp)).set _ (by simp), sl15, (Cell.slots_setSlot_ne _ ap).trans sl13, n1.keep al (p15.other hne (p13.other hne n7)), n2, by rw [al.findClass]; exact n3, n4, n5, fun y c h1 h2 => p15.other h1 (p13.other h1 (by rw [q11]; exact n6 y c h2)), by rw [p15.2.2, p13.2.2, q11]; exact z8⟩, fun fs hl => c16.trans (X15.returnOut hexec hret (hb hbytes d57) hl)⟩
end New4
namespace New1
def yN : MethodName := ⟨"java/lang/String", "<init>", "([C)V"⟩
abbrev yB : ByteArray := jdk_42_method_3_code
theorem d0 : decode yB 0 = .ok (.aload_n 0, 1) := by decide +kernel
theorem d1 : decode yB 1 = .ok (.aload_n 1, 1) := by decide +kernel
theorem d2 : decode yB 2 = .ok (.iconst 0, 1) := by decide +kernel
theorem d3 : decode yB 3 = .ok (.aload_n 1, 1) := by decide +kernel
theorem d4 : decode yB 4 = .ok (.arraylength, 1) := by decide +kernel
theorem d5 : decode yB 5 = .ok (.aconst_null, 1) := by decide +kernel
theorem d6 : decode yB 6 = .ok (.invokespecial 27, 3) := by decide +kernel
theorem d9 : decode yB 9 = .ok (.return_, 1) := by decide +kernel
def site : List Cond := [New4.tab] ++ initW "java/lang/String" 27 New4.yN
def tab : Cond := tabOf yN yB 2 none site
def P (a : Addr) (D : Cell) (fV fC : Field) (b : Addr) (A : Cell) (z : Int32) (args : Array Value) (s : State) : Prop := args = #[.ref a, .ref b] ∧ Blank "java/lang/String" a D s ∧ Found "java/lang/String" "value" "[B" fV s ∧ Found "java/lang/String" "coder" "B" fC s ∧ Ch b A s ∧ StaticIs s "java/lang/String" "COMPACT_STRINGS" "Z" (.int z) ∧ ¬ z = 0 ∧ 0 < A.slots.size ∧ A.slots.size ≤ 536870912 ∧ ∀ i, i < A.slots.size → ¬ 255 < cv A i
def E (a : Addr) (D : Cell) (fV fC : Field) (A : Cell) (r : Option Value) (s u : State) : Prop := Got a D fV fC A 0 A.slots.size r s u
/-- new String(chars), not empty, no char above 255: a Latin-1 String of their low bytes -/
theorem law (l : Launch) (a : Addr) (D : Cell) (fV fC : Field) (b : Addr) (A : Cell) (z : Int32) : Law l yN 2 1 3 52 yB 2 none site (P a D fV fC b A z) (E a D fV fC A) [⟨a, fC.slot⟩, ⟨a, fV.slot⟩] 1 A.slots.size := by
  refine Law.of_walk (plainFor_of_name (by decide +kernel)) (by decide +kernel) (by decide +kernel) (by decide) (fun _ _ h => by rw [h.1]; rfl) (fun _ U U' hal hh h => ⟨h.1, h.2.1.mv hal hh, h.2.2.1.al hal, h.2.2.2.1.al hal, h.2.2.2.2.1.mv hal hh, h.2.2.2.2.2.1.there hal hh, h.2.2.2.2.2.2⟩) (fun r U U' V V' h1 hal h2 h => Got.mv r U U' V V' h1 hal h2 h) ?_
  intro p e s m args below meth c s₁ X0 hexec hbytes hml hret hlk hnm hown hh0 W hP
  obtain ⟨rfl, hB, f1, f2, hA, s1, hz, l0, l2, hp⟩ := hP
  have c1 : Steps p.tables e below (s₁.setTop (entryFrame m #[.ref a, .ref b] 2)) (s₁.setTop (mkF m 0 #[.val (.ref a), .val (.ref b)] [])) := entry rfl
  have c2 : Steps p.tables e below (s₁.setTop (entryFrame m #[.ref a, .ref b] 2)) (s₁.setTop (mkF m 6 #[.val (.ref a), .val (.ref b)] [.null, .int (Int32.ofNat A.slots.size), .int 0, .ref b, .ref a])) := c1.trans (by
    refine XS.aloadN X0.here hexec rfl (hb hbytes d0) rfl rfl ?_
    refine XS.aloadN X0.here hexec rfl (hb hbytes d1) rfl rfl ?_
    refine iconstV X0.here hexec rfl 0 (hb hbytes d2) (by decide) ?_
    refine XS.aloadN X0.here hexec rfl (hb hbytes d3) rfl rfl ?_
    refine X0.alen hexec (hA.1.mv X0.warmed.alike hh0) rfl rfl (hb hbytes d4) ?_
    refine XS.aconstNull X0.here hexec rfl (hb hbytes d5) ?_
    exact Steps.refl _)
  obtain ⟨v3, T3, X3, E3, g3⟩ := X0.callN hexec (New4.law l a D fV fC b A z 0 A.slots.size) rfl hown (wks W (initW "java/lang/String" 27 New4.yN)) (W New4.tab (by simp only [site, List.mem_cons, List.mem_append, true_or, or_true])) (W := 0) (Nat.le_of_ble_eq_true rfl) (Nat.le_of_ble_eq_true rfl) (Nat.le_refl _) (by show 0 + A.slots.size ≤ A.slots.size; omega) (g := (mkF m 6 #[.val (.ref a), .val (.ref b)] [.null, .int (Int32.ofNat A.slots.size), .int (Int32.ofNat 0), .ref b, .ref a])) rfl (by rw [hml]; rfl) c2 (argsL := [.ref b, .int (Int32.ofNat 0), .int (Int32.ofNat A.slots.size), .null]) (rest := []) rfl rfl (by show 2 * 0 + 0 ≤ _; decide) (hb hbytes d6) (⟨rfl, hB.mv X0.warmed.alike hh0, f1.al X0.warmed.alike, f2.al X0.warmed.alike, hA.mv X0.warmed.alike hh0, s1.there X0.warmed.alike hh0, hz, l0, by omega, l2, fun i hi => by rw [Nat.zero_add]; exact hp i hi⟩)
  have e0 := Got.mv _ s₁ s _ _ hh0.symm (Vm.Alike.refl _) rfl E3
  obtain rfl := e0.1
  have c4 : Steps p.tables e below (s₁.setTop (entryFrame m #[.ref a, .ref b] 2)) (T3.setTop (mkF m 9 #[.val (.ref a), .val (.ref b)] [])) := g3
  exact ⟨T3, none, _, _, _, X3, by simp, rfl, by omega, (fun _ => rfl), e0, fun fs hl => c4.trans (X3.returnOut hexec hret (hb hbytes d9) hl)⟩
theorem pays {l : Launch} {R : Room} {p : Program} {e : Env} {below : List Frame} {s : State} {sargs : Array Value} {len W : Nat} (a : Addr) (D : Cell) (fV fC : Field) (b : Addr) (A : Cell) (z : Int32) (htab : tab.before sargs s = true) (hfr : 4 ≤ R.frames) (hlo : W + 65 ≤ R.locals) :
    Back l R p e below s sargs yN len W (fun A₁ a₁ => A₁.cells + 1 ≤ R.cells ∧ A₁.slots + A.slots.size ≤ R.slots ∧ P a D fV fC b A z a₁ A₁.U) (fun A₁ _ v₁ B₁ => E a D fV fC A v₁ A₁.U B₁.U ∧ B₁.locs = A₁.locs ++ [⟨a, fC.slot⟩, ⟨a, fV.slot⟩] ∧ B₁.cells = A₁.cells + 1 ∧ B₁.slots = A₁.slots + A.slots.size) :=
  (law l a D fV fC b A z).pays htab hfr (by omega)
end New1
/-- the byte, read back as charAt reads it, is the char -/
theorem lo8_mask {x : Int32} (h0 : ¬ x < 0) (h1 : ¬ 255 < x) : lo8 x &&& 255 = x := by
  have t : ∀ k : Fin 256, lo8 (Int32.ofNat k.val) &&& 255 = Int32.ofNat k.val := by decide +kernel
  rw [Int32.lt_iff_toInt_lt] at h0 h1
  have e0 : (0 : Int32).toInt = 0 := rfl
  have e1 : (255 : Int32).toInt = 255 := rfl
  obtain ⟨k, hk⟩ : ∃ k : Nat, x.toInt = k := ⟨x.toInt.toNat, by omega⟩
  have hx : x = Int32.ofNat k := Int32.toInt_inj.mp (by rw [hk, Int32.toInt_ofNat_small (by omega)])
  rw [hx]
  exact t ⟨k, by omega⟩
end StrChars
namespace StrChars.Road
open Jvm Sem ClassFile Op Lib Jvm.Stand Jvm.Free Jvm.Free.XT
open Jvm.Lib.Cold (StaticIs)
abbrev ST : String := "java/lang/String"
/-- every table word that New1's law asks, flat -/
abbrev words : List Jvm.Cond := [.code New1.yN New1.yB 2 none, .initialized ST, .methodLink ST 27 New4.yN, .instanceMethod New4.yN,
  .code New4.yN New4.yB 6 none, .fieldLink ST 38 ST "COMPACT_STRINGS" "Z", .laysFinal ST ST "value" "[B", .fieldLink ST 9 ST "value" "[B", .laysFinal ST ST "coder" "B", .fieldLink ST 15 ST "coder" "B",
  .methodLink ST 1 Lib.objectInit, .instanceMethod Lib.objectInit, .code Lib.objectInit ⟨#[0xb1]⟩ 1 none, .methodLink ST 177 Cmp3.yN, .static Cmp3.yN, .methodLink ST 47 CodL.yN, .static CodL.yN,
  .code Cmp3.yN Cmp3.yB 6 (some (.array .byte)), .initialized U16, .arrayClass .byte, .methodLink U16 115 Cmp5.yN, .static Cmp5.yN, .code Cmp5.yN Cmp5.yB 7 (some .int), .code CodL.yN CodL.yB 2 (some .byte)]
theorem tab_of {a : Array Value} {s : State} (h : ∀ w ∈ words, w.before a s = true) : New1.tab.before a s = true := by
  have h5 : Cmp5.tab.before a s = true := unparts (wk h (.code Cmp5.yN Cmp5.yB 7 (some .int))) (wks h (.initialized Cmp5.yN.cls :: Cmp5.site))
  have hc : CodL.tab.before a s = true := unparts (wk h (.code CodL.yN CodL.yB 2 (some .byte))) (wks h (.initialized CodL.yN.cls :: CodL.site))
  have q5 : ∀ w ∈ Cmp5.tab :: words, w.before a s = true := fun w hw => (List.mem_cons.mp hw).elim (fun e => e ▸ h5) (h w)
  have h3 : Cmp3.tab.before a s = true := unparts (wk q5 (.code Cmp3.yN Cmp3.yB 6 (some (.array .byte)))) (wks q5 (.initialized Cmp3.yN.cls :: Cmp3.site))
  have q3 : ∀ w ∈ Cmp3.tab :: CodL.tab :: words, w.before a s = true := fun w hw => (List.mem_cons.mp hw).elim (fun e => e ▸ h3) fun hw => (List.mem_cons.mp hw).elim (fun e => e ▸ hc) (h w)
  have h4 : New4.tab.before a s = true := unparts (wk q3 (.code New4.yN New4.yB 6 none)) (wks q3 (.initialized New4.yN.cls :: New4.site))
  have q4 : ∀ w ∈ New4.tab :: words, w.before a s = true := fun w hw => (List.mem_cons.mp hw).elim (fun e => e ▸ h4) (h w)
  exact unparts (wk q4 (.code New1.yN New1.yB 2 none)) (wks q4 (.initialized New1.yN.cls :: New1.site))
/-- the words ride from the start Z to the walk's own state -/
theorem moved {Z s : State} {a0 args : Array Value} (hZ : Z.Warmed39 s.vm) (hw : ∀ d ∈ words, d.before a0 Z = true) : ∀ d ∈ words, d.before args s = true := fun d hd => by
  have q := hw d hd
  have t : ∀ d ∈ words, d = .arrayClass .byte ∨ (d.onTables && d.keepsFace) = true := by decide +kernel
  rcases t d hd with rfl | t
  · exact RoadKit.mvA hZ q
  · exact RoadKit.mv hZ q t
/-- WHAT COMES BACK, over the tables of the start Z: h the heap at the call, h' behind it -/
def Q (Z : State) (x : Addr) (A : Cell) (h : Heap) (v : Option Value) (h' : Heap) (L : List Loc) : Prop := v = none ∧ (∀ y ∈ L, y.base = x) ∧ RoadKit.Keep h h' [x] ∧ h'.size = h.size + 1 ∧ RoadKit.Exa Z h' x ST ∧ RoadKit.Fld Z h' x ST "value" "[B" (.ref h.size) ∧ RoadKit.Fld Z h' x ST "coder" "B" (.int 0) ∧
  (∃ V : Cell, RoadKit.Arr Z h' h.size V .byte ∧ V.vm = .none ∧ Z.vm.findClass "[B" = some V.cls ∧ V.slots.size = A.slots.size ∧ ∀ j, j < A.slots.size → V.slots[j]? = some (.int (lo8 (cv A j)))) ∧
  ∀ (O n d : String) (w : Value), RoadKit.Fld Z h x O n d w → RoadKit.slotOf Z O n d ≠ RoadKit.slotOf Z ST "value" "[B" → RoadKit.slotOf Z O n d ≠ RoadKit.slotOf Z ST "coder" "B" → RoadKit.Fld Z h' x O n d w
/-- **new String(chars) AT A CALL, IN THE ROAD'S FORM**: for specialBack behind newO: x the fresh String, b the char[] with the cell A -/
theorem back {p : Program} {l : Launch} {e : Env} {R : Room} {s : State} {args : Array Value} {below : List Frame} {len W : Nat} {Z : State} {a0 : Array Value} {h : Heap} (hZ : Z.Warmed39 s.vm) (hw : ∀ d ∈ words, d.before a0 Z = true) {kI : Nat} (wi : (Jvm.Cond.instantiable ST kI).before a0 Z = true)
    {x b : Addr} {A : Cell} {z : Int32} {v0 c0 : Value} (E : RoadKit.Exa Z h x ST) (V : RoadKit.Fld Z h x ST "value" "[B" v0) (C : RoadKit.Fld Z h x ST "coder" "B" c0) (K : RoadKit.Arr Z h b A .char) (hty : Typed .char A) (S : RoadKit.Sta Z h ST "COMPACT_STRINGS" "Z" (.int z)) (hz : ¬ z = 0)
    (l0 : 0 < A.slots.size) (l2 : A.slots.size ≤ 536870912) (hp : ∀ i, i < A.slots.size → ¬ 255 < cv A i) (hfr : 4 ≤ R.frames) (hlo : W + 65 ≤ R.locals) :
    Back l R p e below s args New1.yN len W (fun P a => a = #[.ref x, .ref b] ∧ P.U.heap = h ∧ P.cells + 1 ≤ R.cells ∧ P.slots + A.slots.size ≤ R.slots)
      (fun P _ v B => ∃ L, Q Z x A h v B.U.heap L ∧ B.locs = P.locs ++ L ∧ B.cells = P.cells + 1 ∧ B.slots = P.slots + A.slots.size) := by
  intro m meth c P g ig mk a X hg hsize hdg hW hn hp'
  obtain ⟨rfl, rfl, r1, r2⟩ := hp'
  have al : Z.vm.Alike P.U.vm := hZ.alike.trans X.warmed.alike
  obtain ⟨D, cfV, kV, iV, fV, hD, gV, stV, knV, obV, asV, slV⟩ := id V
  obtain ⟨D', cfC, kC, iC, fC, hD', gC, stC, -, -, asC, slC⟩ := id C
  cases hD.symm.trans hD'
  obtain ⟨D2, kD, e1, e2, e3, e4, e5⟩ := id E
  cases hD.symm.trans e1
  obtain ⟨c2, k2, i1, i2, i3, -⟩ := Cond.instantiable_spec wi
  cases e2.symm.trans i1
  cases e3.symm.trans i2
  obtain ⟨kU, u1, u2⟩ := al.2.2 _ _ e3
  have hB : Blank ST x D P.U := ⟨hD, ⟨knV, fun q hq => by rw [hq] at obV; cases obV⟩, by rw [al.findClass]; exact e2, kU, u1, by rw [u2]; exact i3, by rw [u2]; exact e5 i3⟩
  have F1 : Found ST "value" "[B" fV P.U := ⟨SBG.found_only al ⟨cfV, kV, iV, gV⟩, stV⟩
  have F2 : Found ST "coder" "B" fC P.U := ⟨SBG.found_only al ⟨cfC, kC, iC, gC⟩, stC⟩
  have hA : Ch b A P.U := ⟨⟨K.1, State.isArrayOf_alike al K.2.1, K.2.2, by omega⟩, hty⟩
  have hS : StaticIs P.U ST "COMPACT_STRINGS" "Z" (.int z) := by
    obtain ⟨cfS, iS, kS, fS, st, cS, t1, t2, t3, t4, t5, t6, t7⟩ := S
    exact StaticIs.there (s := { Z with heap := P.U.heap }) ⟨cfS, iS, kS, fS, st, cS, t1, t2, t3, t4, t5, (fun q => by rw [q] at t6; cases t6), t7⟩ al rfl
  obtain ⟨v, B, X', ⟨⟨hv, E', V', q1, q2, q3, q4, q5, q6, q7, q8, q9, q10, q11⟩, hl, hc, hs⟩, st⟩ := New1.pays x D fV fC b A z (tab_of (moved hZ hw)) hfr hlo m meth c P g ig mk _ X hg hsize hdg hW hn ⟨r1, r2, rfl, hB, F1, F2, hA, hS, hz, l0, l2, hp⟩
  have al' : Z.vm.Alike B.U.vm := hZ.alike.trans X'.warmed.alike
  have hsz : E'.slots.size = D.slots.size := by
    obtain ⟨-, -, -, kB, w1, w2, w3⟩ := q1
    obtain ⟨kB', y1, y2⟩ := al'.2.2 _ _ e3
    rw [q2.2.1] at w1
    cases w1.symm.trans y1
    rw [w3, e5 i3, y2]
  refine ⟨v, B, X', ⟨_, ⟨hv, ?_, ⟨by omega, fun y cy hy hn' => q10 y cy (by simpa using hn') hy, fun y cy hy => ?_⟩, q11, ⟨E', _, q1.1, by rw [q2.2.1]; exact e2, by rw [q2.2.1]; exact e3, by rw [q2.1]; exact obV, fun _ => by rw [hsz]; exact e5 i3⟩,
    ⟨E', cfV, kV, iV, fV, q1.1, gV, stV, by rw [q2.1]; exact knV, by rw [q2.1]; exact obV, by rw [q2.2.1]; exact asV, q3⟩, ⟨E', cfC, kC, iC, fC, q1.1, gC, stC, by rw [q2.1]; exact knV, by rw [q2.1]; exact obV, by rw [q2.2.1]; exact asC, q4⟩,
    ⟨V', ⟨q5.1, State.isArrayOf_alike al'.symm q5.2.1, q5.2.2.1⟩, q6, by rw [← al'.findClass]; exact q7, q8, fun j hj => by have := q9 j hj; rwa [Nat.zero_add] at this⟩, fun O n d w F n1 n2 => ?_⟩, hl, hc, hs⟩, st⟩
  · intro y hy
    simp only [List.mem_cons, List.not_mem_nil, or_false] at hy
    rcases hy with rfl | rfl <;> rfl
  · by_cases q : y = x
    · subst q
      cases hD.symm.trans hy
      exact ⟨E', q1.1, q2.2.1, q2.1, hsz⟩
    · exact ⟨cy, q10 y cy q hy, rfl, rfl, rfl⟩
  · obtain ⟨D3, cf, k, i, f, g1, g2, g3, g4, g5, g6, g7⟩ := F
    cases hD.symm.trans g1
    simp only [RoadKit.slotOf, g2, gV, gC, Option.map_some, Option.getD_some] at n1 n2
    exact ⟨E', cf, k, i, f, q1.1, g2, g3, by rw [q2.1]; exact g4, by rw [q2.1]; exact g5, by rw [q2.2.1]; exact g6, by rw [q2.2.2 f.slot (by simp [n1, n2])]; exact g7⟩
end StrChars.Road
namespace StrChars.Road
open Jvm Sem ClassFile Op Lib Jvm.Stand Jvm.Free Jvm.Free.XT
/-- WHAT COMES BACK, the byte[] as a list of values -/
def QA (Z : State) (x : Addr) (zn : Int32) (cs : List Int32) (h : Heap) (v : Option Value) (h' : Heap) (L : List Loc) : Prop := v = none ∧ (∀ y ∈ L, y.base = x) ∧ RoadKit.Keep h h' [x] ∧ h'.size = h.size + 1 ∧ RoadKit.Exa Z h' x ST ∧ RoadKit.Fld Z h' x ST "value" "[B" (.ref h.size) ∧ RoadKit.Fld Z h' x ST "coder" "B" (.int 0) ∧
  (∃ kb, Z.vm.findClass "[B" = some kb ∧ RoadKit.Arv Z h' h.size kb .byte zn (cs.map fun c => .int (lo8 c)) (.int 0)) ∧
  ∀ (O n d : String) (w : Value), RoadKit.Fld Z h x O n d w → RoadKit.slotOf Z O n d ≠ RoadKit.slotOf Z ST "value" "[B" → RoadKit.slotOf Z O n d ≠ RoadKit.slotOf Z ST "coder" "B" → RoadKit.Fld Z h' x O n d w
/-- **new String(chars) AT A CALL, THE ARRAYS AS LISTS**: the char[] at b holds cs, not empty, no char above 255 -/
theorem backArv {p : Program} {l : Launch} {e : Env} {R : Room} {s : State} {args : Array Value} {below : List Frame} {len W : Nat} {Z : State} {a0 : Array Value} {h : Heap} (hZ : Z.Warmed39 s.vm) (hw : ∀ d ∈ words, d.before a0 Z = true) {kI : Nat} (wi : (Jvm.Cond.instantiable ST kI).before a0 Z = true)
    {x b : Addr} {k : ClassId} {zn z : Int32} {cs : List Int32} {dv v0 c0 : Value} (E : RoadKit.Exa Z h x ST) (V : RoadKit.Fld Z h x ST "value" "[B" v0) (C : RoadKit.Fld Z h x ST "coder" "B" c0) (K : RoadKit.Arv Z h b k .char zn (cs.map Value.int) dv) (S : RoadKit.Sta Z h ST "COMPACT_STRINGS" "Z" (.int z)) (hz : ¬ z = 0)
    (hlen : zn.toNatClampNeg = cs.length) (h0 : 0 < cs.length) (hbig : cs.length ≤ 536870912) (hall : ∀ c ∈ cs, ¬ 255 < c) (hfr : 4 ≤ R.frames) (hlo : W + 65 ≤ R.locals) :
    Back l R p e below s args New1.yN len W (fun P a => a = #[.ref x, .ref b] ∧ P.U.heap = h ∧ P.cells + 1 ≤ R.cells ∧ P.slots + cs.length ≤ R.slots)
      (fun P _ v B => ∃ L, QA Z x zn cs h v B.U.heap L ∧ B.locs = P.locs ++ L ∧ B.cells = P.cells + 1 ∧ B.slots = P.slots + cs.length) := by
  obtain ⟨A, K1, K2, K3, K4, K5, K6⟩ := K
  have e : A.slots.size = cs.length := K3.trans hlen
  have hat : ∀ (i : Nat) (hi : i < cs.length), A.slots[i]? = some (.int cs[i]) := fun i hi => by rw [K5 i (by omega)]; simp [List.getD_eq_getElem?_getD, hi]
  have hcv : ∀ (i : Nat) (hi : i < cs.length), cv A i = cs[i] := fun i hi => by unfold cv; rw [hat i hi]
  have hty : Typed .char A := fun i v hv => by
    have hi : i < A.slots.size := (Array.getElem?_eq_some_iff.mp hv).1
    have q := K5 i hi
    rw [hv] at q
    rw [Option.some.inj q]
    exact K6 i hi
  refine Back.mono (back hZ hw wi E V C K1 hty S hz (by omega) (by omega) (fun i hi => by rw [hcv i (by omega)]; exact hall _ (List.getElem_mem _)) hfr hlo) (fun P a hp => ⟨hp.1, hp.2.1, hp.2.2.1, by rw [e]; exact hp.2.2.2⟩) (fun P a v B hp hq => ?_)
  obtain ⟨L, ⟨q1, q2, q3, q4, q5, q6, q7, ⟨V', v1, v2, v3, v4, v5⟩, q9⟩, hl, hc, hs⟩ := hq
  refine ⟨L, ⟨q1, q2, q3, q4, q5, q6, q7, ⟨V'.cls, v3, V', v1, rfl, by rw [v4, e, hlen], K4, fun i hi => ?_, fun i hi => ?_⟩, q9⟩, hl, hc, by rw [hs, e]⟩
  · have hi' : i < cs.length := by omega
    rw [v5 i (by omega), hcv i hi']; simp [List.getD_eq_getElem?_getD, hi']
  · have hi' : i < cs.length := by omega
    simp only [List.getD_eq_getElem?_getD, List.getElem?_map, List.getElem?_eq_getElem hi', Option.map_some, Option.getD_some]
    exact fits_lo8 _
end StrChars.Road
namespace StrChars.Road
open Jvm Sem ClassFile Op Lib Jvm.Stand Jvm.Free Jvm.Free.XT
/-- WHAT COMES BACK, in the writer's own shape -/
def QV (Z : State) (x : Addr) (N : Int32) (bs : List Int32) (h : Heap) (n0 : Nat) (v : Option Value) (h' : Heap) (L : List Loc) : Prop := v = none ∧ RoadKit.Fr n0 L ∧ RoadKit.Keep h h' [x] ∧ RoadKit.Exa Z h' x ST ∧ RoadKit.Fld Z h' x ST "coder" "B" (.int 0) ∧
  ∃ (t : Addr) (kb : ClassId), n0 ≤ t ∧ h.size ≤ t ∧ ¬ t = x ∧ RoadKit.Fld Z h' x ST "value" "[B" (.ref t) ∧ RoadKit.Arv Z h' t kb .byte N (bs.map Value.int) (.int 0)
/-- **new String(chars) AT A CALL, FOR THE WRITER**: a char[] of n known ints, each 0 to 255 -/
theorem backV {p : Program} {l : Launch} {e : Env} {R : Room} {s : State} {args : Array Value} {below : List Frame} {len W : Nat} {Z : State} {a0 : Array Value} {h : Heap} (hZ : Z.Warmed39 s.vm) (hw : ∀ d ∈ words, d.before a0 Z = true) {kI : Nat} (wi : (Jvm.Cond.instantiable ST kI).before a0 Z = true)
    {x b : Addr} {kC : ClassId} {cs bs : List Int32} {d v0 c0 : Value} {z N : Int32} {n n0 : Nat} (hx0 : n0 ≤ x) (hh0 : n0 ≤ h.size) (E : RoadKit.Exa Z h x ST) (V : RoadKit.Fld Z h x ST "value" "[B" v0) (C : RoadKit.Fld Z h x ST "coder" "B" c0) (K : RoadKit.Arv Z h b kC .char N (cs.map Value.int) d) (S : RoadKit.Sta Z h ST "COMPACT_STRINGS" "Z" (.int z)) (hz : ¬ z = 0)
    (hn : cs.length = n) (hN : N = Int32.ofNat n) (l0 : 0 < n) (l2 : n ≤ 4000) (hp : ∀ c ∈ cs, ¬ c < 0 ∧ ¬ (255 : Int32) < c) (hb : bs = cs.map (fun c => c.toInt8.toInt32)) (hfr : 4 ≤ R.frames) (hlo : W + 65 ≤ R.locals) :
    Back l R p e below s args (⟨"java/lang/String", "<init>", "([C)V"⟩ : MethodName) len W (fun P a => a = #[.ref x, .ref b] ∧ P.U.heap = h ∧ P.cells + 1 ≤ R.cells ∧ P.slots + n ≤ R.slots)
      (fun P _ v B => ∃ L, QV Z x N bs h n0 v B.U.heap L ∧ B.locs = P.locs ++ L ∧ B.cells = P.cells + 1 ∧ B.slots = P.slots + n) := by
  subst hn hN hb
  refine Back.mono (backArv hZ hw wi E V C K S hz (n32 (by omega)) l0 (by omega) (fun c hc => (hp c hc).2) hfr hlo) (fun P a hp => hp) (fun P a v B hp hq => ?_)
  obtain ⟨L, ⟨q1, q2, q3, q4, q5, q6, q7, ⟨kb, v1, v2⟩, q9⟩, hl, hc, hs⟩ := hq
  exact ⟨L, ⟨q1, fun y hy => by rw [q2 y hy]; exact hx0, q3, q5, q7, h.size, kb, hh0, Nat.le_refl _, Nat.ne_of_gt E.lt, q6, by rw [List.map_map]; exact v2⟩, hl, hc, hs⟩
end StrChars.Road
namespace StrChars
open Jvm Sem ClassFile Op Lib Jvm.Stand Jvm.Free.XT Jvm.Free.ALB Jvm.Free.JM Jvm.Free
open Jvm.Lib.Cold (StaticIs)
def hi8 (x : Int32) : Int32 := lo8 (x >>> ((8 : Int32) &&& 31))
/-- what StringUTF16.getChar makes of two bytes -/
def pairCh (u v : Int32) : Int32 := (((u &&& 255) <<< ((0 : Int32) &&& 31)) ||| ((v &&& 255) <<< ((8 : Int32) &&& 31))).toUInt32.toUInt16.toUInt32.toInt32
theorem lo8_and (x : Int32) : (lo8 x &&& 255).toBitVec.toNat = x.toBitVec.toNat % 256 := by
  have h : (lo8 x).toBitVec = (x.toBitVec.signExtend 8).signExtend 32 := by rw [lo8, Int8.toBitVec_toInt32, Int32.toBitVec_toInt8]
  rw [Int32.toBitVec_and, BitVec.toNat_and, h]
  have e : ((x.toBitVec.signExtend 8).signExtend 32).toNat % 256 = x.toBitVec.toNat % 256 := by
    rw [BitVec.toNat_signExtend]
    have hlt := x.toBitVec.isLt
    simp only [BitVec.toNat_setWidth, BitVec.toNat_signExtend]
    split <;> split <;> omega
  rw [← e]
  exact Nat.and_two_pow_sub_one_eq_mod _ 8
theorem pair_says {c : Int32} (h0 : ¬ c < 0) (h1 : ¬ 65535 < c) : pairCh (lo8 c) (hi8 c) = c := by
  rw [Int32.lt_iff_toInt_lt] at h0 h1
  have e0 : (0 : Int32).toInt = 0 := rfl
  have e1 : (65535 : Int32).toInt = 65535 := rfl
  have hc : c.toInt = c.toBitVec.toNat := by
    have := c.toBitVec.isLt
    have e : c.toInt = c.toBitVec.toInt := rfl
    rw [e] at h0 h1
    rw [e]
    rw [BitVec.toInt_eq_toNat_cond] at h0 h1 ⊢
    split at h0 <;> split <;> omega
  have hn : c.toBitVec.toNat < 65536 := by omega
  have a1 := lo8_and c
  have a2 : (hi8 c &&& 255).toBitVec.toNat = c.toBitVec.toNat / 256 := by
    rw [hi8, lo8_and]
    have e : ((8 : Int32) &&& 31) = 8 := by decide
    rw [e, Int32.toBitVec_shiftRight]
    have e2 : ((8 : Int32).toBitVec.smod 32) = 8#32 := by decide
    rw [e2, BitVec.sshiftRight_eq', BitVec.toNat_sshiftRight_of_msb_false (by rw [BitVec.msb_eq_false_iff_two_mul_lt]; omega)]
    show c.toBitVec.toNat >>> 8 % 256 = _
    rw [Nat.shiftRight_eq_div_pow]
    omega
  unfold pairCh
  apply Int32.toBitVec_inj.mp
  apply BitVec.eq_of_toNat_eq
  have f0 : ((0 : Int32) &&& 31) = 0 := by decide
  have f8 : ((8 : Int32) &&& 31) = 8 := by decide
  rw [f0, f8]
  have g : (((lo8 c &&& 255) <<< (0 : Int32)) ||| ((hi8 c &&& 255) <<< (8 : Int32))).toBitVec.toNat = c.toBitVec.toNat := by
    rw [Int32.toBitVec_or, Int32.toBitVec_shiftLeft, Int32.toBitVec_shiftLeft]
    have s0 : ((0 : Int32).toBitVec.smod 32) = 0#32 := by decide
    have s8 : ((8 : Int32).toBitVec.smod 32) = 8#32 := by decide
    rw [s0, s8, BitVec.toNat_or]
    simp only [BitVec.shiftLeft_eq', BitVec.toNat_shiftLeft, a1, a2]
    show (c.toBitVec.toNat % 256) <<< 0 % 2 ^ 32 ||| (c.toBitVec.toNat / 256) <<< 8 % 2 ^ 32 = _
    rw [Nat.shiftLeft_zero, Nat.mod_eq_of_lt (show c.toBitVec.toNat % 256 < 2 ^ 32 by omega), Nat.mod_eq_of_lt (show (c.toBitVec.toNat / 256) <<< 8 < 2 ^ 32 by rw [Nat.shiftLeft_eq]; omega), Nat.or_comm, ← Nat.shiftLeft_add_eq_or_of_lt (by omega), Nat.shiftLeft_eq]
    omega
  show BitVec.toNat (((((lo8 c &&& 255) <<< (0 : Int32)) ||| ((hi8 c &&& 255) <<< (8 : Int32))).toBitVec.setWidth 16).setWidth 32) = _
  rw [BitVec.toNat_setWidth, BitVec.toNat_setWidth, g]
  omega
end StrChars
namespace StrChars
open Jvm Sem ClassFile Op Lib Jvm.Stand Jvm.Free.XT Jvm.Free.ALB Jvm.Free.JM Jvm.Free
open Jvm.Lib.Cold (StaticIs)
/-- the array's cell V codes the n chars f 0 .. f (n - 1) by the coder cd, as the JDK does: coder 1 just where some char is above 255 -/
def Cod (cd : Int32) (n : Nat) (f : Nat → Int32) (V : Cell) : Prop := (cd = 0 ∧ V.slots.size = n ∧ ∀ j, j < n → V.slots[j]? = some (.int (lo8 (f j))) ∧ ¬ 255 < f j) ∨ (cd = 1 ∧ V.slots.size = 2 * n ∧ (∀ j, j < n → V.slots[2 * j]? = some (.int (lo8 (f j))) ∧ V.slots[2 * j + 1]? = some (.int (hi8 (f j)))) ∧ ∃ j, j < n ∧ 255 < f j)
/-- **x is a String of the n chars f 0 .. f (n - 1)**, Latin-1 or UTF-16; its array at t has the cell V -/
def Txt (x t : Addr) (V : Cell) (cd : Int32) (n : Nat) (f : Nat → Int32) (U : State) : Prop := Exact "java/lang/String" x U ∧ Has x "java/lang/String" "value" "[B" (.ref t) U ∧ Has x "java/lang/String" "coder" "B" (.int cd) U ∧ XT.Arr .byte t V U ∧ Cod cd n f V ∧ ∀ j, j < n → ¬ f j < 0 ∧ ¬ 65535 < f j
theorem Txt.mv {x t : Addr} {V : Cell} {cd : Int32} {n : Nat} {f : Nat → Int32} {U U' : State} (h : Txt x t V cd n f U) (hal : U.vm.Alike U'.vm) (hh : U'.heap = U.heap) : Txt x t V cd n f U' := ⟨h.1.mv hal hh, h.2.1.mv hal hh, h.2.2.1.mv hal hh, h.2.2.2.1.mv hal hh, h.2.2.2.2⟩
end StrChars
namespace StrChars.Road
open Jvm Sem ClassFile Op Lib Jvm.Stand Jvm.Free Jvm.Free.XT
open Jvm.Lib.Cold (StaticIs)
theorem consq {a : Array Value} {s : State} {c : Jvm.Cond} {L : List Jvm.Cond} (h0 : c.before a s = true) (h : ∀ w ∈ L, w.before a s = true) : ∀ w ∈ c :: L, w.before a s = true := fun w hw => (List.mem_cons.mp hw).elim (fun e => e ▸ h0) (h w)
/-- the bytes of the chars cs, low before high -/
def wideBytes : List Int32 → List Value
  | [] => []
  | c :: cs => .int (lo8 c) :: .int (hi8 c) :: wideBytes cs
theorem wide_lo (d : Value) : ∀ (cs : List Int32) (j : Nat), j < cs.length → (wideBytes cs).getD (2 * j) d = .int (lo8 (cs.getD j 0))
  | [], j, h => absurd h (Nat.not_lt_zero j)
  | c :: cs, 0, _ => rfl
  | c :: cs, j + 1, h => by
    have q := wide_lo d cs j (by simpa using h)
    rw [show 2 * (j + 1) = 2 * j + 1 + 1 from by omega]
    simpa [wideBytes] using q
theorem wide_hi (d : Value) : ∀ (cs : List Int32) (j : Nat), j < cs.length → (wideBytes cs).getD (2 * j + 1) d = .int (hi8 (cs.getD j 0))
  | [], j, h => absurd h (Nat.not_lt_zero j)
  | c :: cs, 0, _ => rfl
  | c :: cs, j + 1, h => by
    have q := wide_hi d cs j (by simpa using h)
    rw [show 2 * (j + 1) + 1 = 2 * j + 1 + 1 + 1 from by omega]
    simpa [wideBytes] using q
theorem low_at (d : Value) (cs : List Int32) (j : Nat) (h : j < cs.length) : (cs.map fun c => Value.int (lo8 c)).getD j d = .int (lo8 (cs.getD j 0)) := by
  simp [List.getD_eq_getElem?_getD, h]
/-- an array of N2 bytes vs codes the chars cs by the coder cd -/
def CodA (cs : List Int32) (cd N2 : Int32) (vs : List Value) : Prop := (cd = 0 ∧ N2 = Int32.ofNat cs.length ∧ vs = (cs.map fun c => Value.int (lo8 c)) ∧ ∀ c ∈ cs, ¬ 255 < c) ∨ (cd = 1 ∧ N2 = Int32.ofNat (2 * cs.length) ∧ vs = wideBytes cs ∧ ∃ c ∈ cs, 255 < c)
theorem CodA.cod {cs : List Int32} {cd N2 : Int32} {vs : List Value} {V : Cell} (h : CodA cs cd N2 vs) (hn : 2 * cs.length < 2 ^ 31) (hs : V.slots.size = N2.toNatClampNeg) (hv : RoadKit.Has V vs (.int 0)) : Cod cd cs.length (fun j => cs.getD j 0) V := by
  rcases h with ⟨rfl, rfl, rfl, h⟩ | ⟨rfl, rfl, rfl, c, hc, hw⟩
  · rw [n32 (by omega)] at hs
    exact Or.inl ⟨rfl, hs, fun j hj => ⟨by rw [hv j (by omega), low_at _ _ _ hj], by
      have e : cs.getD j 0 = cs[j] := by simp [List.getD_eq_getElem?_getD, hj]
      show ¬ 255 < cs.getD j 0
      rw [e]; exact h _ (List.getElem_mem _)⟩⟩
  · rw [n32 (by omega)] at hs
    obtain ⟨j, hj, rfl⟩ := List.getElem_of_mem hc
    exact Or.inr ⟨rfl, hs, fun j hj => ⟨by rw [hv _ (by omega), wide_lo _ _ _ hj], by rw [hv _ (by omega), wide_hi _ _ _ hj]⟩, j, hj, by
      have e : cs.getD j 0 = cs[j] := by simp [List.getD_eq_getElem?_getD, hj]
      show 255 < cs.getD j 0
      rw [e]; exact hw⟩
/-- an object of exactly java/lang/String, its two fields found: as the laws ask it -/
theorem strObj {Z U : State} {a0 : Array Value} {kI : Nat} (wi : (Jvm.Cond.instantiable ST kI).before a0 Z = true) (al : Z.vm.Alike U.vm) {x : Addr} {v0 c0 : Value} (E : RoadKit.Exa Z U.heap x ST) (V : RoadKit.Fld Z U.heap x ST "value" "[B" v0) (C : RoadKit.Fld Z U.heap x ST "coder" "B" c0) :
    ∃ (D : Cell) (fV fC : Field), Blank ST x D U ∧ Found ST "value" "[B" fV U ∧ Found ST "coder" "B" fC U ∧ D.slots[fV.slot]? = some v0 ∧ D.slots[fC.slot]? = some c0 ∧ RoadKit.slotOf Z ST "value" "[B" = fV.slot ∧ RoadKit.slotOf Z ST "coder" "B" = fC.slot := by
  obtain ⟨D, cfV, kV, iV, fV, hD, gV, stV, knV, obV, asV, slV⟩ := V
  obtain ⟨D', cfC, kC, iC, fC, hD', gC, stC, -, -, asC, slC⟩ := C
  cases hD.symm.trans hD'
  obtain ⟨D2, kD, e1, e2, e3, e4, e5⟩ := E
  cases hD.symm.trans e1
  obtain ⟨c2, k2, i1, i2, i3, -⟩ := Cond.instantiable_spec wi
  cases e2.symm.trans i1
  cases e3.symm.trans i2
  obtain ⟨kU, u1, u2⟩ := al.2.2 _ _ e3
  exact ⟨D, fV, fC, ⟨hD, ⟨knV, fun q hq => by rw [hq] at obV; cases obV⟩, by rw [al.findClass]; exact e2, kU, u1, by rw [u2]; exact i3, by rw [u2]; exact e5 i3⟩, ⟨SBG.found_only al ⟨cfV, kV, iV, gV⟩, stV⟩, ⟨SBG.found_only al ⟨cfC, kC, iC, gC⟩, stC⟩, slV, slC, by simp [RoadKit.slotOf, gV], by simp [RoadKit.slotOf, gC]⟩
theorem sta_is {Z U : State} (al : Z.vm.Alike U.vm) {C n d : String} {v : Value} (S : RoadKit.Sta Z U.heap C n d v) : StaticIs U C n d v := by
  obtain ⟨cfS, iS, kS, fS, st, cS, t1, t2, t3, t4, t5, t6, t7⟩ := S
  exact StaticIs.there (s := { Z with heap := U.heap }) ⟨cfS, iS, kS, fS, st, cS, t1, t2, t3, t4, t5, (fun q => by rw [q] at t6; cases t6), t7⟩ al rfl
end StrChars.Road
namespace StrChars
open Jvm Sem ClassFile Op Lib Jvm.Stand Jvm.Free.XT Jvm.Free.ALB Jvm.Free.JM Jvm.Free
open Jvm.Lib.Cold (StaticIs)
/-- what place i of a byte[]'s cell holds -/
def yv (A : Cell) (i : Nat) : Int32 := match A.slots[i]? with | some (.int x) => x | _ => 0
theorem yv_get {a : Addr} {A : Cell} {U : State} (h : XT.Arr .byte a A U) (ht : Typed .byte A) {i : Nat} (hi : i < A.slots.size) : A.slots[i]? = some (.int (yv A i)) := by
  have e := Array.getElem?_eq_getElem hi
  have f := ht i _ e
  unfold yv; rw [e]
  generalize A.slots[i] = v at f
  cases v <;> simp [fits] at f ⊢
/-- the two arrays are equal, place for place -/
def EqC (A B : Cell) : Prop := A.slots.size = B.slots.size ∧ ∀ i, i < A.slots.size → yv A i = yv B i
/-- a boolean that says whether p -/
def Says01 (q : Prop) (r : Option Value) (s u : State) : Prop := ∃ v : Int32, r = some (.int v) ∧ u.heap = s.heap ∧ ((v = 1 ∧ q) ∨ (v = 0 ∧ ¬ q))
theorem Says01.mv {q : Prop} : ∀ r (U U' V V' : State), U'.heap = U.heap → V.vm.Alike V'.vm → V'.heap = V.heap → Says01 q r U V → Says01 q r U' V' :=
  fun r U U' V V' h1 _ h2 ⟨v, a, b, c⟩ => ⟨v, a, by rw [h1, h2]; exact b, c⟩
namespace LEq
def yN : MethodName := ⟨"java/lang/StringLatin1", "equals", "([B[B)Z"⟩
abbrev yB : ByteArray := jdk_43_method_13_code
theorem d0 : decode yB 0 = .ok (.aload_n 0, 1) := by decide +kernel
theorem d1 : decode yB 1 = .ok (.arraylength, 1) := by decide +kernel
theorem d2 : decode yB 2 = .ok (.aload_n 1, 1) := by decide +kernel
theorem d3 : decode yB 3 = .ok (.arraylength, 1) := by decide +kernel
theorem d4 : decode yB 4 = .ok (.if_icmp (.ne) 30, 3) := by decide +kernel
theorem d7 : decode yB 7 = .ok (.iconst 0, 1) := by decide +kernel
theorem d8 : decode yB 8 = .ok (.istore_n 2, 1) := by decide +kernel
theorem d9 : decode yB 9 = .ok (.iload_n 2, 1) := by decide +kernel
theorem d10 : decode yB 10 = .ok (.aload_n 0, 1) := by decide +kernel
theorem d11 : decode yB 11 = .ok (.arraylength, 1) := by decide +kernel
theorem d12 : decode yB 12 = .ok (.if_icmp (.ge) 20, 3) := by decide +kernel
theorem d15 : decode yB 15 = .ok (.aload_n 0, 1) := by decide +kernel
theorem d16 : decode yB 16 = .ok (.iload_n 2, 1) := by decide +kernel
theorem d17 : decode yB 17 = .ok (.baload, 1) := by decide +kernel
theorem d18 : decode yB 18 = .ok (.aload_n 1, 1) := by decide +kernel
theorem d19 : decode yB 19 = .ok (.iload_n 2, 1) := by decide +kernel
theorem d20 : decode yB 20 = .ok (.baload, 1) := by decide +kernel
theorem d21 : decode yB 21 = .ok (.if_icmp (.eq) 5, 3) := by decide +kernel
theorem d24 : decode yB 24 = .ok (.iconst 0, 1) := by decide +kernel
theorem d25 : decode yB 25 = .ok (.ireturn, 1) := by decide +kernel
theorem d26 : decode yB 26 = .ok (.iinc 2 1, 3) := by decide +kernel
theorem d29 : decode yB 29 = .ok (.goto (-20), 3) := by decide +kernel
theorem d32 : decode yB 32 = .ok (.iconst 1, 1) := by decide +kernel
theorem d33 : decode yB 33 = .ok (.ireturn, 1) := by decide +kernel
theorem d34 : decode yB 34 = .ok (.iconst 0, 1) := by decide +kernel
theorem d35 : decode yB 35 = .ok (.ireturn, 1) := by decide +kernel
def site : List Cond := []
def tab : Cond := tabOf yN yB 3 (some .boolean) site
def P (a : Addr) (A : Cell) (b : Addr) (B : Cell) (args : Array Value) (s : State) : Prop := args = #[.ref a, .ref b] ∧ XT.Arr .byte a A s ∧ Typed .byte A ∧ XT.Arr .byte b B s ∧ Typed .byte B
/-- whether two byte[] are equal, place for place -/
theorem law (l : Launch) (a : Addr) (A : Cell) (b : Addr) (B : Cell) : Law l yN 2 2 0 0 yB 3 (some .boolean) site (P a A b B) (Says01 (EqC A B)) [] 0 0 := by
  refine Law.of_walk (plainFor_of_name (by decide +kernel)) (by decide +kernel) (by decide +kernel) (by decide) (fun _ _ h => by rw [h.1]; rfl) (fun _ U U' hal hh h => ⟨h.1, h.2.1.mv hal hh, h.2.2.1, h.2.2.2.1.mv hal hh, h.2.2.2.2⟩) (fun r U U' V V' h1 hal h2 h => Says01.mv r U U' V V' h1 hal h2 h) ?_
  intro p e s m args below meth c s₁ X0 hexec hbytes hml hret hlk hnm hown hh0 W hP
  obtain ⟨rfl, hA, tA, hB, tB⟩ := hP
  have a31 := hA.2.2.2
  have b31 := hB.2.2.2
  have hA0 := hA.mv X0.warmed.alike hh0
  have hB0 := hB.mv X0.warmed.alike hh0
  have c1 : Steps p.tables e below (s₁.setTop (entryFrame m #[.ref a, .ref b] 3)) (s₁.setTop (mkF m 0 #[.val (.ref a), .val (.ref b), .unset] [])) := entry rfl
  have c2 : Steps p.tables e below (s₁.setTop (entryFrame m #[.ref a, .ref b] 3)) (s₁.setTop (mkF m 4 #[.val (.ref a), .val (.ref b), .unset] [.int (Int32.ofNat B.slots.size), .int (Int32.ofNat A.slots.size)])) := c1.trans (by
    refine XS.aloadN X0.here hexec rfl (hb hbytes d0) rfl rfl ?_
    refine X0.alen hexec hA0 rfl rfl (hb hbytes d1) ?_
    refine XS.aloadN X0.here hexec rfl (hb hbytes d2) rfl rfl ?_
    refine X0.alen hexec hB0 rfl rfl (hb hbytes d3) ?_
    exact Steps.refl _)
  by_cases hs : A.slots.size = B.slots.size
  · have c3 : Steps p.tables e below (s₁.setTop (entryFrame m #[.ref a, .ref b] 3)) (s₁.setTop (mkF m 9 #[.val (.ref a), .val (.ref b), .val (.int 0)] [])) := c2.trans (by
      refine XS.icmpNo X0.here hexec rfl (hb hbytes d4) rfl (ii_ne_f (by rw [hs])) ?_
      refine iconstV X0.here hexec rfl 0 (hb hbytes d7) (by decide) ?_
      refine XS.istoreN X0.here hexec rfl (hb hbytes d8) rfl rfl ?_
      exact Steps.refl _)
    have loop : ∀ (r i : Nat), i + r = A.slots.size → (∀ j, j < i → yv A j = yv B j) → Steps p.tables e below (s₁.setTop (entryFrame m #[.ref a, .ref b] 3)) (s₁.setTop (mkF m 9 #[.val (.ref a), .val (.ref b), .val (.int (Int32.ofNat i))] [])) → ∃ (pc : Nat) (Ls : Array Slot) (v : Int32), (pc = 25 ∨ pc = 33) ∧ ((v = 1 ∧ EqC A B) ∨ (v = 0 ∧ ¬ EqC A B)) ∧ Steps p.tables e below (s₁.setTop (entryFrame m #[.ref a, .ref b] 3)) (s₁.setTop (mkF m pc Ls [.int v])) := by
      intro r
      induction r with
      | zero =>
        intro i hi he cl
        exact ⟨33, _, 1, Or.inr rfl, Or.inl ⟨rfl, hs, fun j hj => he j (by omega)⟩, cl.trans (by
          refine XS.iloadN X0.here hexec rfl (hb hbytes d9) rfl ?_
          refine XS.aloadN X0.here hexec rfl (hb hbytes d10) rfl rfl ?_
          refine X0.alen hexec hA0 rfl rfl (hb hbytes d11) ?_
          refine XS.icmpYes X0.here hexec rfl (pc0 := 12) rfl (hb hbytes d12) rfl (ii_ge_t (nlt32 (by omega) (by omega))) (by decide) rfl ?_
          refine iconstV X0.here hexec rfl 1 (hb hbytes d32) (by decide) ?_
          exact Steps.refl _)⟩
      | succ r ih =>
        intro i hi he cl
        have c4 : Steps p.tables e below (s₁.setTop (entryFrame m #[.ref a, .ref b] 3)) (s₁.setTop (mkF m 21 #[.val (.ref a), .val (.ref b), .val (.int (Int32.ofNat i))] [.int (yv B i), .int (yv A i)])) := cl.trans (by
          refine XS.iloadN X0.here hexec rfl (hb hbytes d9) rfl ?_
          refine XS.aloadN X0.here hexec rfl (hb hbytes d10) rfl rfl ?_
          refine X0.alen hexec hA0 rfl rfl (hb hbytes d11) ?_
          refine XS.icmpNo X0.here hexec rfl (hb hbytes d12) rfl (ii_ge_f (lt32 (by omega) (by omega))) ?_
          refine XS.aloadN X0.here hexec rfl (hb hbytes d15) rfl rfl ?_
          refine XS.iloadN X0.here hexec rfl (hb hbytes d16) rfl ?_
          refine X0.aget hexec hA0 rfl (yv_get hA tA (i := i) (by omega)) rfl rfl (hb hbytes d17) ?_
          refine XS.aloadN X0.here hexec rfl (hb hbytes d18) rfl rfl ?_
          refine XS.iloadN X0.here hexec rfl (hb hbytes d19) rfl ?_
          refine X0.aget hexec hB0 rfl (yv_get hB tB (i := i) (by omega)) rfl rfl (hb hbytes d20) ?_
          exact Steps.refl _)
        by_cases hv : yv A i = yv B i
        · have c5 : Steps p.tables e below (s₁.setTop (entryFrame m #[.ref a, .ref b] 3)) (s₁.setTop (mkF m 9 #[.val (.ref a), .val (.ref b), .val (.int (Int32.ofNat i + 1))] [])) := c4.trans (by
            refine XS.icmpYes X0.here hexec rfl (pc0 := 21) rfl (hb hbytes d21) rfl (ii_eq_t hv) (by decide) rfl ?_
            refine iincV X0.here hexec rfl 1 (hb hbytes d26) (by decide) rfl rfl ?_
            refine XS.goto X0.here hexec rfl (pc0 := 29) rfl (hb hbytes d29) (by decide) rfl ?_
            exact Steps.refl _)
          rw [succ32] at c5
          exact ih (i + 1) (by omega) (fun j hj => by
            by_cases e : j = i
            · rw [e]; exact hv
            · exact he j (by omega)) c5
        · exact ⟨25, _, 0, Or.inl rfl, Or.inr ⟨rfl, fun q => hv (q.2 i (by omega))⟩, c4.trans (by
            refine XS.icmpNo X0.here hexec rfl (hb hbytes d21) rfl (ii_eq_f hv) ?_
            refine iconstV X0.here hexec rfl 0 (hb hbytes d24) (by decide) ?_
            exact Steps.refl _)⟩
    obtain ⟨pc, Ls, v, hpc, hv, cz⟩ := loop A.slots.size 0 (by omega) (fun j hj => absurd hj (Nat.not_lt_zero j)) c3
    have nv : narrow .boolean (.int v) = .int v := by rcases hv with ⟨rfl, -⟩ | ⟨rfl, -⟩ <;> rfl
    rcases hpc with rfl | rfl
    · exact ⟨s₁, some (.int v), _, _, _, X0, rfl, rfl, rfl, (fun h => by cases h), ⟨v, rfl, hh0, hv⟩, fun fs hl => cz.trans (X0.ireturnOut hexec hret nv (Or.inr (Or.inl rfl)) (hb hbytes d25) hl)⟩
    · exact ⟨s₁, some (.int v), _, _, _, X0, rfl, rfl, rfl, (fun h => by cases h), ⟨v, rfl, hh0, hv⟩, fun fs hl => cz.trans (X0.ireturnOut hexec hret nv (Or.inr (Or.inl rfl)) (hb hbytes d33) hl)⟩
  · have c3 : Steps p.tables e below (s₁.setTop (entryFrame m #[.ref a, .ref b] 3)) (s₁.setTop (mkF m 35 #[.val (.ref a), .val (.ref b), .unset] [.int 0])) := c2.trans (by
      refine XS.icmpYes X0.here hexec rfl (pc0 := 4) rfl (hb hbytes d4) rfl (ii_ne_t (ne32 a31 b31 hs)) (by decide) rfl ?_
      refine iconstV X0.here hexec rfl 0 (hb hbytes d34) (by decide) ?_
      exact Steps.refl _)
    exact ⟨s₁, some (.int 0), _, _, _, X0, rfl, rfl, rfl, (fun h => by cases h), ⟨0, rfl, hh0, Or.inr ⟨rfl, fun q => hs q.1⟩⟩, fun fs hl => c3.trans (X0.ireturnOut hexec hret rfl (Or.inr (Or.inl rfl)) (hb hbytes d35) hl)⟩
end LEq
theorem Cod.ty {cd : Int32} {n : Nat} {f : Nat → Int32} {V : Cell} (h : Cod cd n f V) : Typed .byte V := fun i v hv => by
  have hi : i < V.slots.size := (Array.getElem?_eq_some_iff.mp hv).1
  rcases h with ⟨-, k1, k2⟩ | ⟨-, k1, k2, -⟩
  · rw [(k2 i (by omega)).1] at hv; cases hv; exact fits_lo8 _
  · rcases Nat.mod_two_eq_zero_or_one i with e | e
    · obtain ⟨j, rfl⟩ : ∃ j, i = 2 * j := ⟨i / 2, by omega⟩
      rw [(k2 j (by omega)).1] at hv; cases hv; exact fits_lo8 _
    · obtain ⟨j, rfl⟩ : ∃ j, i = 2 * j + 1 := ⟨i / 2, by omega⟩
      rw [(k2 j (by omega)).2] at hv; cases hv; exact fits_lo8 _
/-- the same text -/
def SameT (n : Nat) (f : Nat → Int32) (k : Nat) (g : Nat → Int32) : Prop := n = k ∧ ∀ j, j < n → f j = g j
theorem lo8_inj {x y : Int32} (h0 : ¬ x < 0) (h1 : ¬ 255 < x) (k0 : ¬ y < 0) (k1 : ¬ 255 < y) (h : lo8 x = lo8 y) : x = y := by
  rw [← lo8_mask h0 h1, ← lo8_mask k0 k1, h]
/-- arrays coded by one coder are equal just where the texts are -/
theorem Cod.eqv {cd : Int32} {n k : Nat} {f g : Nat → Int32} {V V' : Cell} (h : Cod cd n f V) (h' : Cod cd k g V') (hf : ∀ j, j < n → ¬ f j < 0 ∧ ¬ 65535 < f j) (hg : ∀ j, j < k → ¬ g j < 0 ∧ ¬ 65535 < g j) : EqC V V' ↔ SameT n f k g := by
  have yvv : ∀ {W : Cell} {i : Nat} {x : Int32}, W.slots[i]? = some (.int x) → yv W i = x := fun q => by unfold yv; rw [q]
  rcases h with ⟨rfl, k1, k2⟩ | ⟨rfl, k1, k2, -⟩
  · rcases h' with ⟨-, m1, m2⟩ | ⟨e, -⟩
    · constructor
      · rintro ⟨e1, e2⟩
        refine ⟨by omega, fun j hj => ?_⟩
        have q := e2 j (by omega)
        rw [yvv (k2 j hj).1, yvv (m2 j (by omega)).1] at q
        exact lo8_inj (hf j hj).1 (k2 j hj).2 (hg j (by omega)).1 (m2 j (by omega)).2 q
      · rintro ⟨rfl, e2⟩
        refine ⟨by omega, fun j hj => ?_⟩
        rw [yvv (k2 j (by omega)).1, yvv (m2 j (by omega)).1, e2 j (by omega)]
    · exact absurd e (by decide)
  · rcases h' with ⟨e, -⟩ | ⟨-, m1, m2, -⟩
    · exact absurd e (by decide)
    · constructor
      · rintro ⟨e1, e2⟩
        refine ⟨by omega, fun j hj => ?_⟩
        have q1 := e2 (2 * j) (by omega)
        have q2 := e2 (2 * j + 1) (by omega)
        rw [yvv (k2 j hj).1, yvv (m2 j (by omega)).1] at q1
        rw [yvv (k2 j hj).2, yvv (m2 j (by omega)).2] at q2
        rw [← pair_says (hf j hj).1 (hf j hj).2, ← pair_says (hg j (by omega)).1 (hg j (by omega)).2, q1, q2]
      · rintro ⟨rfl, e2⟩
        refine ⟨by omega, fun i hi => ?_⟩
        rcases Nat.mod_two_eq_zero_or_one i with e | e
        · obtain ⟨j, rfl⟩ : ∃ j, i = 2 * j := ⟨i / 2, by omega⟩
          rw [yvv (k2 j (by omega)).1, yvv (m2 j (by omega)).1, e2 j (by omega)]
        · obtain ⟨j, rfl⟩ : ∃ j, i = 2 * j + 1 := ⟨i / 2, by omega⟩
          rw [yvv (k2 j (by omega)).2, yvv (m2 j (by omega)).2, e2 j (by omega)]
/-- two codings differ: so do the texts -/
theorem Cod.dif {cd cd' : Int32} {n k : Nat} {f g : Nat → Int32} {V V' : Cell} (h : Cod cd n f V) (h' : Cod cd' k g V') (hne : ¬ cd = cd') : ¬ SameT n f k g := by
  rintro ⟨rfl, e⟩
  rcases h with ⟨rfl, -, k2⟩ | ⟨rfl, -, -, j, hj, hw⟩
  · rcases h' with ⟨rfl, -⟩ | ⟨-, -, -, j, hj, hw⟩
    · exact hne rfl
    · exact (k2 j hj).2 (by rw [e j hj]; exact hw)
  · rcases h' with ⟨-, -, m2⟩ | ⟨rfl, -⟩
    · exact (m2 j hj).2 (by rw [← e j hj]; exact hw)
    · exact hne rfl
/-- an object of exactly C is an instance of C -/
theorem cinst {p : Program} {l : Launch} {e : Env} {R : Room} {s : State} {m : MethodId} {args : Array Value} {below : List Frame} {meth : Method} {c : Code} {T : State} {locs : List Loc} {cells slots : Nat} (X : Stand p l e R s m args below meth c T locs cells slots) (hexec : p.tables.exec = Jvm.exec) {own C : String} {index : Nat} (hown : s.vm.findClass own = some m.cls) (hlink : (Cond.classLink own index C).before args s = true) {a : Addr} (hE : Exact C a T)
    {g : JFrame} (hg : g.method = m) {rest : List Value} (hstack : g.stack = .ref a :: rest) (hdg : decode c.code g.pc = .ok (.instanceof index, 3)) :
    ∃ T', Stand p l e R s m args below meth c T' locs cells slots ∧ T'.heap = T.heap ∧ ∀ target, Steps p.tables e below (T'.setTop { g with pc := g.pc + 3, stack := .int 1 :: rest }) target → Steps p.tables e below (T.setTop g) target := by
  obtain ⟨cB, h1, D, h2, h3, h4⟩ := hE
  have h1' : s.vm.findClass C = some cB := by rw [← X.warmed.alike.findClass]; exact h1
  obtain ⟨vm', X', st⟩ := X.instanceofYes hexec hown hlink h2 h4 h1' (by rw [h3]; exact Jvm.Free.SB.assignable_self _ _) hg hstack hdg
  exact ⟨_, X', rfl, st⟩
theorem cself {p : Program} {l : Launch} {e : Env} {R : Room} {s : State} {m : MethodId} {args : Array Value} {below : List Frame} {meth : Method} {c : Code} {T : State} {locs : List Loc} {cells slots : Nat} (X : Stand p l e R s m args below meth c T locs cells slots) (hexec : p.tables.exec = Jvm.exec) {own C : String} {index : Nat} (hown : s.vm.findClass own = some m.cls) (hlink : (Cond.classLink own index C).before args s = true) {a : Addr} (hE : Exact C a T)
    {g : JFrame} (hg : g.method = m) {rest : List Value} (hstack : g.stack = .ref a :: rest) (hdg : decode c.code g.pc = .ok (.checkcast index, 3)) :
    ∃ T', Stand p l e R s m args below meth c T' locs cells slots ∧ T'.heap = T.heap ∧ ∀ target, Steps p.tables e below (T'.setTop { g with pc := g.pc + 3, stack := .ref a :: rest }) target → Steps p.tables e below (T.setTop g) target := by
  obtain ⟨cB, h1, D, h2, h3, h4⟩ := hE
  have h1' : s.vm.findClass C = some cB := by rw [← X.warmed.alike.findClass]; exact h1
  obtain ⟨vm', X', st⟩ := X.checkcastYes hexec hown hlink h2 h4 h1' (by rw [h3]; exact Jvm.Free.SB.assignable_self _ _) hg hstack hdg
  exact ⟨_, X', rfl, fun t h => st t (by rw [← hstack] at h; exact h)⟩
namespace SEq
def yN : MethodName := ⟨"java/lang/String", "equals", "(Ljava/lang/Object;)Z"⟩
abbrev yB : ByteArray := jdk_42_method_66_code
theorem d0 : decode yB 0 = .ok (.aload_n 0, 1) := by decide +kernel
theorem d1 : decode yB 1 = .ok (.aload_n 1, 1) := by decide +kernel
theorem d2 : decode yB 2 = .ok (.if_acmp (.ne) 5, 3) := by decide +kernel
theorem d5 : decode yB 5 = .ok (.iconst 1, 1) := by decide +kernel
theorem d6 : decode yB 6 = .ok (.ireturn, 1) := by decide +kernel
theorem d7 : decode yB 7 = .ok (.aload_n 1, 1) := by decide +kernel
theorem d8 : decode yB 8 = .ok (.instanceof 10, 3) := by decide +kernel
theorem d11 : decode yB 11 = .ok (.ifCond (.eq) 43, 3) := by decide +kernel
theorem d14 : decode yB 14 = .ok (.aload_n 1, 1) := by decide +kernel
theorem d15 : decode yB 15 = .ok (.checkcast 10, 3) := by decide +kernel
theorem d18 : decode yB 18 = .ok (.astore_n 2, 1) := by decide +kernel
theorem d19 : decode yB 19 = .ok (.getstatic 38, 3) := by decide +kernel
theorem d22 : decode yB 22 = .ok (.ifCond (.eq) 14, 3) := by decide +kernel
theorem d25 : decode yB 25 = .ok (.aload_n 0, 1) := by decide +kernel
theorem d26 : decode yB 26 = .ok (.getfield 15, 3) := by decide +kernel
theorem d29 : decode yB 29 = .ok (.aload_n 2, 1) := by decide +kernel
theorem d30 : decode yB 30 = .ok (.getfield 15, 3) := by decide +kernel
theorem d33 : decode yB 33 = .ok (.if_icmp (.ne) 21, 3) := by decide +kernel
theorem d36 : decode yB 36 = .ok (.aload_n 0, 1) := by decide +kernel
theorem d37 : decode yB 37 = .ok (.getfield 9, 3) := by decide +kernel
theorem d40 : decode yB 40 = .ok (.aload_n 2, 1) := by decide +kernel
theorem d41 : decode yB 41 = .ok (.getfield 9, 3) := by decide +kernel
theorem d44 : decode yB 44 = .ok (.invokestatic 541, 3) := by decide +kernel
theorem d47 : decode yB 47 = .ok (.ifCond (.eq) 7, 3) := by decide +kernel
theorem d50 : decode yB 50 = .ok (.iconst 1, 1) := by decide +kernel
theorem d51 : decode yB 51 = .ok (.goto 4, 3) := by decide +kernel
theorem d54 : decode yB 54 = .ok (.iconst 0, 1) := by decide +kernel
theorem d55 : decode yB 55 = .ok (.ireturn, 1) := by decide +kernel
def site : List Cond := [.classLink "java/lang/String" 10 "java/lang/String", .fieldLink "java/lang/String" 38 "java/lang/String" "COMPACT_STRINGS" "Z", .fieldLink "java/lang/String" 15 "java/lang/String" "coder" "B", .fieldLink "java/lang/String" 9 "java/lang/String" "value" "[B", LEq.tab] ++ staticW "java/lang/String" 541 LEq.yN
def tab : Cond := tabOf yN yB 3 (some .boolean) site
def P (x t : Addr) (V : Cell) (cd : Int32) (n : Nat) (f : Nat → Int32) (y t' : Addr) (V' : Cell) (cd' : Int32) (k : Nat) (g : Nat → Int32) (z : Int32) (args : Array Value) (s : State) : Prop := args = #[.ref x, .ref y] ∧ Txt x t V cd n f s ∧ Txt y t' V' cd' k g s ∧ StaticIs s "java/lang/String" "COMPACT_STRINGS" "Z" (.int z) ∧ ¬ z = 0
/-- equals(Object) of two Strings: whether the texts are the same -/
theorem law (l : Launch) (x t : Addr) (V : Cell) (cd : Int32) (n : Nat) (f : Nat → Int32) (y t' : Addr) (V' : Cell) (cd' : Int32) (k : Nat) (g : Nat → Int32) (z : Int32) : Law l yN 2 1 1 14 yB 3 (some .boolean) site (P x t V cd n f y t' V' cd' k g z) (Says01 (SameT n f k g)) [] 0 0 := by
  refine Law.of_walk (plainFor_of_name (by decide +kernel)) (by decide +kernel) (by decide +kernel) (by decide) (fun _ _ h => by rw [h.1]; rfl) (fun _ U U' hal hh h => ⟨h.1, h.2.1.mv hal hh, h.2.2.1.mv hal hh, h.2.2.2.1.there hal hh, h.2.2.2.2⟩) (fun r U U' V V' h1 hal h2 h => Says01.mv r U U' V V' h1 hal h2 h) ?_
  intro p e s m args below meth c s₁ X0 hexec hbytes hml hret hlk hnm hown hh0 W hP
  obtain ⟨rfl, hx, hy, s1, hz⟩ := hP
  have c1 : Steps p.tables e below (s₁.setTop (entryFrame m #[.ref x, .ref y] 3)) (s₁.setTop (mkF m 2 #[.val (.ref x), .val (.ref y), .unset] [.ref y, .ref x])) := Steps.trans (entry rfl) (by
    show Steps p.tables e below (s₁.setTop (mkF m 0 #[.val (.ref x), .val (.ref y), .unset] [])) _
    refine XS.aloadN X0.here hexec rfl (hb hbytes d0) rfl rfl ?_
    refine XS.aloadN X0.here hexec rfl (hb hbytes d1) rfl rfl ?_
    exact Steps.refl _)
  by_cases hxy : x = y
  · have c2 : Steps p.tables e below (s₁.setTop (entryFrame m #[.ref x, .ref y] 3)) (s₁.setTop (mkF m 6 #[.val (.ref x), .val (.ref y), .unset] [.int 1])) := c1.trans (by
      refine acmpNo X0.here hexec rfl (hb hbytes d2) rfl rfl rfl (by simp [acmp, hxy]) ?_
      refine iconstV X0.here hexec rfl 1 (hb hbytes d5) (by decide) ?_
      exact Steps.refl _)
    subst hxy
    have ec : cd = cd' := by
      obtain ⟨D, fd, a1, a2, a3⟩ := hx.2.2.1
      obtain ⟨D', fd', b1, b2, b3⟩ := hy.2.2.1
      cases a1.symm.trans b1
      obtain ⟨q1, q2, q3, q4⟩ := a2.1
      obtain ⟨r1, r2, r3, r4⟩ := b2.1
      cases q4.symm.trans r4
      cases a3.symm.trans b3; rfl
    have et : t = t' := by
      obtain ⟨D, fd, a1, a2, a3⟩ := hx.2.1
      obtain ⟨D', fd', b1, b2, b3⟩ := hy.2.1
      cases a1.symm.trans b1
      obtain ⟨q1, q2, q3, q4⟩ := a2.1
      obtain ⟨r1, r2, r3, r4⟩ := b2.1
      cases q4.symm.trans r4
      cases a3.symm.trans b3; rfl
    subst ec et
    have ev : V = V' := by cases hx.2.2.2.1.1.symm.trans hy.2.2.2.1.1; rfl
    subst ev
    have hs : SameT n f k g := (Cod.eqv hx.2.2.2.2.1 hy.2.2.2.2.1 hx.2.2.2.2.2 hy.2.2.2.2.2).mp ⟨rfl, fun _ _ => rfl⟩
    exact ⟨s₁, some (.int 1), _, _, _, X0, rfl, rfl, rfl, (fun h => by cases h), ⟨1, rfl, hh0, Or.inl ⟨rfl, hs⟩⟩, fun fs hl => c2.trans (X0.ireturnOut hexec hret rfl (Or.inr (Or.inl rfl)) (hb hbytes d6) hl)⟩
  · have c2 : Steps p.tables e below (s₁.setTop (entryFrame m #[.ref x, .ref y] 3)) (s₁.setTop (mkF m 8 #[.val (.ref x), .val (.ref y), .unset] [.ref y])) := c1.trans (by
      refine acmpYes X0.here hexec rfl (pc0 := 2) rfl (hb hbytes d2) rfl rfl rfl (by simp [acmp, hxy]) (by decide) rfl ?_
      refine XS.aloadN X0.here hexec rfl (hb hbytes d7) rfl rfl ?_
      exact Steps.refl _)
    obtain ⟨T3, X3, q3, st3⟩ := cinst X0 hexec hown (wk W (.classLink "java/lang/String" 10 "java/lang/String")) (hy.mv X0.warmed.alike hh0).1 (g := (mkF m 8 #[.val (.ref x), .val (.ref y), .unset] [.ref y])) rfl (rest := []) rfl (hb hbytes d8)
    have hh3 := q3.trans hh0
    have c4 : Steps p.tables e below (s₁.setTop (entryFrame m #[.ref x, .ref y] 3)) (T3.setTop (mkF m 15 #[.val (.ref x), .val (.ref y), .unset] [.ref y])) := (c2.trans (st3 _ (Steps.refl _))).trans (by
      refine XS.ifNo X3.here hexec rfl (hb hbytes d11) rfl (i0_eq_f (by decide)) ?_
      refine XS.aloadN X3.here hexec rfl (hb hbytes d14) rfl rfl ?_
      exact Steps.refl _)
    obtain ⟨T5, X5, q5, st5⟩ := cself X3 hexec hown (wk W (.classLink "java/lang/String" 10 "java/lang/String")) (hy.mv X3.warmed.alike hh3).1 (g := (mkF m 15 #[.val (.ref x), .val (.ref y), .unset] [.ref y])) rfl (rest := []) rfl (hb hbytes d15)
    have hh5 := q5.trans hh3
    have c6 : Steps p.tables e below (s₁.setTop (entryFrame m #[.ref x, .ref y] 3)) (T5.setTop (mkF m 19 #[.val (.ref x), .val (.ref y), .val (.ref y)] [])) := (c4.trans (st5 _ (Steps.refl _))).trans (by
      refine XS.astoreN X5.here hexec rfl (hb hbytes d18) rfl rfl rfl ?_
      exact Steps.refl _)
    obtain ⟨T7, X7, q7, st7⟩ := X5.sget hexec hown (wk W (.fieldLink "java/lang/String" 38 "java/lang/String" "COMPACT_STRINGS" "Z")) s1 (fun _ _ h => by rw [hh5]; exact h) (g := (mkF m 19 #[.val (.ref x), .val (.ref y), .val (.ref y)] [])) rfl (hb hbytes d19)
    have hh7 := q7.trans hh5
    have c8 : Steps p.tables e below (s₁.setTop (entryFrame m #[.ref x, .ref y] 3)) (T7.setTop (mkF m 26 #[.val (.ref x), .val (.ref y), .val (.ref y)] [.ref x])) := (c6.trans (st7 _ (Steps.refl _))).trans (by
      refine XS.ifNo X7.here hexec rfl (hb hbytes d22) rfl (i0_eq_f hz) ?_
      refine XS.aloadN X7.here hexec rfl (hb hbytes d25) rfl rfl ?_
      exact Steps.refl _)
    obtain ⟨T9, X9, q9, st9⟩ := X7.hget hexec hown (wk W (.fieldLink "java/lang/String" 15 "java/lang/String" "coder" "B")) (hx.mv X7.warmed.alike hh7).2.2.1 (g := (mkF m 26 #[.val (.ref x), .val (.ref y), .val (.ref y)] [.ref x])) rfl (rest := []) rfl (hb hbytes d26)
    have hh9 := q9.trans hh7
    have c10 : Steps p.tables e below (s₁.setTop (entryFrame m #[.ref x, .ref y] 3)) (T9.setTop (mkF m 30 #[.val (.ref x), .val (.ref y), .val (.ref y)] [.ref y, .int cd])) := (c8.trans (st9 _ (Steps.refl _))).trans (by
      refine XS.aloadN X9.here hexec rfl (hb hbytes d29) rfl rfl ?_
      exact Steps.refl _)
    obtain ⟨T11, X11, q11, st11⟩ := X9.hget hexec hown (wk W (.fieldLink "java/lang/String" 15 "java/lang/String" "coder" "B")) (hy.mv X9.warmed.alike hh9).2.2.1 (g := (mkF m 30 #[.val (.ref x), .val (.ref y), .val (.ref y)] [.ref y, .int cd])) rfl (rest := [.int cd]) rfl (hb hbytes d30)
    have hh11 := q11.trans hh9
    have c12 : Steps p.tables e below (s₁.setTop (entryFrame m #[.ref x, .ref y] 3)) (T11.setTop (mkF m 33 #[.val (.ref x), .val (.ref y), .val (.ref y)] [.int cd', .int cd])) := c10.trans (st11 _ (Steps.refl _))
    by_cases hcd : cd = cd'
    · subst hcd
      have c13 : Steps p.tables e below (s₁.setTop (entryFrame m #[.ref x, .ref y] 3)) (T11.setTop (mkF m 37 #[.val (.ref x), .val (.ref y), .val (.ref y)] [.ref x])) := c12.trans (by
        refine XS.icmpNo X11.here hexec rfl (hb hbytes d33) rfl (ii_ne_f rfl) ?_
        refine XS.aloadN X11.here hexec rfl (hb hbytes d36) rfl rfl ?_
        exact Steps.refl _)
      obtain ⟨T14, X14, q14, st14⟩ := X11.hget hexec hown (wk W (.fieldLink "java/lang/String" 9 "java/lang/String" "value" "[B")) (hx.mv X11.warmed.alike hh11).2.1 (g := (mkF m 37 #[.val (.ref x), .val (.ref y), .val (.ref y)] [.ref x])) rfl (rest := []) rfl (hb hbytes d37)
      have hh14 := q14.trans hh11
      have c15 : Steps p.tables e below (s₁.setTop (entryFrame m #[.ref x, .ref y] 3)) (T14.setTop (mkF m 41 #[.val (.ref x), .val (.ref y), .val (.ref y)] [.ref y, .ref t])) := (c13.trans (st14 _ (Steps.refl _))).trans (by
        refine XS.aloadN X14.here hexec rfl (hb hbytes d40) rfl rfl ?_
        exact Steps.refl _)
      obtain ⟨T16, X16, q16, st16⟩ := X14.hget hexec hown (wk W (.fieldLink "java/lang/String" 9 "java/lang/String" "value" "[B")) (hy.mv X14.warmed.alike hh14).2.1 (g := (mkF m 41 #[.val (.ref x), .val (.ref y), .val (.ref y)] [.ref y, .ref t])) rfl (rest := [.ref t]) rfl (hb hbytes d41)
      have hh16 := q16.trans hh14
      have c17 : Steps p.tables e below (s₁.setTop (entryFrame m #[.ref x, .ref y] 3)) (T16.setTop (mkF m 44 #[.val (.ref x), .val (.ref y), .val (.ref y)] [.ref t', .ref t])) := c15.trans (st16 _ (Steps.refl _))
      obtain ⟨v18, T18, X18, E18, g18⟩ := X16.callS hexec (LEq.law l t V t' V') hown (wks W (staticW "java/lang/String" 541 LEq.yN)) (wk W LEq.tab) (W := 0) (Nat.le_of_ble_eq_true rfl) (Nat.le_of_ble_eq_true rfl) (Nat.le_refl _) (Nat.le_refl _) (g := (mkF m 44 #[.val (.ref x), .val (.ref y), .val (.ref y)] [.ref t', .ref t])) rfl (by rw [hml]; rfl) c17 (argsL := [.ref t, .ref t']) (rest := []) rfl rfl (by show 2 * 0 + 0 ≤ _; decide) (hb hbytes d44) (⟨rfl, hx.2.2.2.1.mv X16.warmed.alike hh16, hx.2.2.2.2.1.ty, hy.2.2.2.1.mv X16.warmed.alike hh16, hy.2.2.2.2.1.ty⟩)
      obtain ⟨v, rfl, q18, hv⟩ := E18
      have iff := Cod.eqv hx.2.2.2.2.1 hy.2.2.2.2.1 hx.2.2.2.2.2 hy.2.2.2.2.2
      rcases hv with ⟨rfl, he⟩ | ⟨rfl, he⟩
      · have c19 : Steps p.tables e below (s₁.setTop (entryFrame m #[.ref x, .ref y] 3)) (T18.setTop (mkF m 55 #[.val (.ref x), .val (.ref y), .val (.ref y)] [.int 1])) := Steps.trans g18 (by
          refine XS.ifNo X18.here hexec rfl (hb hbytes d47) rfl (i0_eq_f (by decide)) ?_
          refine iconstV X18.here hexec rfl 1 (hb hbytes d50) (by decide) ?_
          refine XS.goto X18.here hexec rfl (pc0 := 51) rfl (hb hbytes d51) (by decide) rfl ?_
          exact Steps.refl _)
        exact ⟨T18, some (.int 1), _, _, _, X18, rfl, rfl, rfl, (fun h => by cases h), ⟨1, rfl, q18.trans hh16, Or.inl ⟨rfl, iff.mp he⟩⟩, fun fs hl => c19.trans (X18.ireturnOut hexec hret rfl (Or.inr (Or.inl rfl)) (hb hbytes d55) hl)⟩
      · have c19 : Steps p.tables e below (s₁.setTop (entryFrame m #[.ref x, .ref y] 3)) (T18.setTop (mkF m 55 #[.val (.ref x), .val (.ref y), .val (.ref y)] [.int 0])) := Steps.trans g18 (by
          refine XS.ifYes X18.here hexec rfl (pc0 := 47) rfl (hb hbytes d47) rfl (i0_eq_t rfl) (by decide) rfl ?_
          refine iconstV X18.here hexec rfl 0 (hb hbytes d54) (by decide) ?_
          exact Steps.refl _)
        exact ⟨T18, some (.int 0), _, _, _, X18, rfl, rfl, rfl, (fun h => by cases h), ⟨0, rfl, q18.trans hh16, Or.inr ⟨rfl, fun q => he (iff.mpr q)⟩⟩, fun fs hl => c19.trans (X18.ireturnOut hexec hret rfl (Or.inr (Or.inl rfl)) (hb hbytes d55) hl)⟩
    · have c13 : Steps p.tables e below (s₁.setTop (entryFrame m #[.ref x, .ref y] 3)) (T11.setTop (mkF m 55 #[.val (.ref x), .val (.ref y), .val (.ref y)] [.int 0])) := c12.trans (by
        refine XS.icmpYes X11.here hexec rfl (pc0 := 33) rfl (hb hbytes d33) rfl (ii_ne_t hcd) (by decide) rfl ?_
        refine iconstV X11.here hexec rfl 0 (hb hbytes d54) (by decide) ?_
        exact Steps.refl _)
      exact ⟨T11, some (.int 0), _, _, _, X11, rfl, rfl, rfl, (fun h => by cases h), ⟨0, rfl, hh11, Or.inr ⟨rfl, Cod.dif hx.2.2.2.2.1 hy.2.2.2.2.1 hcd⟩⟩, fun fs hl => c13.trans (X11.ireturnOut hexec hret rfl (Or.inr (Or.inl rfl)) (hb hbytes d55) hl)⟩
theorem pays {l : Launch} {R : Room} {p : Program} {e : Env} {below : List Frame} {s : State} {sargs : Array Value} {len W : Nat} (x t : Addr) (V : Cell) (cd : Int32) (n : Nat) (f : Nat → Int32) (y t' : Addr) (V' : Cell) (cd' : Int32) (k : Nat) (g : Nat → Int32) (z : Int32) (htab : tab.before sargs s = true) (hfr : 2 ≤ R.frames) (hlo : W + 28 ≤ R.locals) :
    Back l R p e below s sargs yN len W (fun A₁ a₁ => A₁.cells + 0 ≤ R.cells ∧ A₁.slots + 0 ≤ R.slots ∧ P x t V cd n f y t' V' cd' k g z a₁ A₁.U) (fun A₁ _ v₁ B₁ => Says01 (SameT n f k g) v₁ A₁.U B₁.U ∧ B₁.locs = A₁.locs ++ [] ∧ B₁.cells = A₁.cells + 0 ∧ B₁.slots = A₁.slots + 0) :=
  (law l x t V cd n f y t' V' cd' k g z).pays htab hfr (by omega)
end SEq
end StrChars
namespace StrChars.Road
open Jvm Sem ClassFile Op Lib Jvm.Stand Jvm.Free Jvm.Free.XT
open Jvm.Lib.Cold (StaticIs)
/-- the words of String.equals(Object) -/
abbrev wordsEq : List Jvm.Cond := [.code SEq.yN SEq.yB 3 (some .boolean), .initialized ST, .classLink ST 10 ST, .fieldLink ST 38 ST "COMPACT_STRINGS" "Z", .fieldLink ST 15 ST "coder" "B", .fieldLink ST 9 ST "value" "[B", .methodLink ST 541 LEq.yN, .static LEq.yN, .code LEq.yN LEq.yB 3 (some .boolean), .initialized "java/lang/StringLatin1"]
theorem tabEq_of {a : Array Value} {s : State} (h : ∀ w ∈ wordsEq, w.before a s = true) : SEq.tab.before a s = true := by
  have hl : LEq.tab.before a s = true := unparts (wk h (.code LEq.yN LEq.yB 3 (some .boolean))) (wks h (.initialized LEq.yN.cls :: LEq.site))
  have q := consq hl h
  exact unparts (wk q (.code SEq.yN SEq.yB 3 (some .boolean))) (wks q (.initialized SEq.yN.cls :: SEq.site))
theorem movedEq {Z s : State} {a0 args : Array Value} (hZ : Z.Warmed39 s.vm) (hw : ∀ d ∈ wordsEq, d.before a0 Z = true) : ∀ d ∈ wordsEq, d.before args s = true := fun d hd => by
  have t : ∀ d ∈ wordsEq, (d.onTables && d.keepsFace) = true := by decide +kernel
  exact RoadKit.mv hZ (hw d hd) (t d hd)
/-- the road's facts of a String, as the laws ask it -/
theorem txt_of {Z U : State} {a0 : Array Value} {kI : Nat} (wi : (Jvm.Cond.instantiable ST kI).before a0 Z = true) (al : Z.vm.Alike U.vm) {x t : Addr} {kb : ClassId} {cs : List Int32} {cd N2 : Int32} {vs : List Value} (E : RoadKit.Exa Z U.heap x ST) (V : RoadKit.Fld Z U.heap x ST "value" "[B" (.ref t)) (C : RoadKit.Fld Z U.heap x ST "coder" "B" (.int cd)) (K : RoadKit.Arv Z U.heap t kb .byte N2 vs (.int 0)) (hc : CodA cs cd N2 vs) (hb : ∀ c ∈ cs, ¬ c < 0 ∧ ¬ (65535 : Int32) < c) (l2 : cs.length ≤ 4000) :
    ∃ A, Txt x t A cd cs.length (fun j => cs.getD j 0) U := by
  obtain ⟨A, K1, K2, K3, K4, K5, K6⟩ := K
  have hcod := hc.cod (by omega) K3 K5
  obtain ⟨D, fV, fC, hB, F1, F2, g1, g2, -, -⟩ := strObj wi al E V C
  exact ⟨A, ⟨_, hB.2.2.1, D, hB.1, rfl, by cases q : D.vm <;> first | rfl | exact absurd q (hB.2.1.2 _)⟩, Has.of hB F1 g1, Has.of hB F2 g2, ⟨K1.1, State.isArrayOf_alike al K1.2.1, K1.2.2, by rcases hcod with ⟨-, q, -⟩ | ⟨-, q, -⟩ <;> omega⟩, hcod, fun j hj => by
    have e : cs.getD j 0 = cs[j] := by simp [List.getD_eq_getElem?_getD, hj]
    show ¬ cs.getD j 0 < 0 ∧ ¬ 65535 < cs.getD j 0
    rw [e]; exact hb _ (List.getElem_mem _)⟩
theorem same_list (cs ds : List Int32) : SameT cs.length (fun j => cs.getD j 0) ds.length (fun j => ds.getD j 0) ↔ cs = ds := by
  constructor
  · rintro ⟨e, q⟩
    refine List.ext_getElem e fun j h1 h2 => ?_
    have := q j h1
    simpa [List.getD_eq_getElem?_getD, h1, h2] using this
  · rintro rfl
    exact ⟨rfl, fun _ _ => rfl⟩
/-- **equals(Object) OF TWO SUCH STRINGS**: 1 just where the chars are the same -/
theorem eqW {p : Program} {l : Launch} {e : Env} {R : Room} {s : State} {args : Array Value} {below : List Frame} {len W : Nat} {Z : State} {a0 : Array Value} {h : Heap} (hZ : Z.Warmed39 s.vm) (hw : ∀ d ∈ wordsEq, d.before a0 Z = true) {kI : Nat} (wi : (Jvm.Cond.instantiable ST kI).before a0 Z = true)
    {x t : Addr} {kb : ClassId} {cs : List Int32} {cd N2 : Int32} {vs : List Value} (E : RoadKit.Exa Z h x ST) (V : RoadKit.Fld Z h x ST "value" "[B" (.ref t)) (C : RoadKit.Fld Z h x ST "coder" "B" (.int cd)) (K : RoadKit.Arv Z h t kb .byte N2 vs (.int 0)) (hc : CodA cs cd N2 vs) (hb : ∀ c ∈ cs, ¬ c < 0 ∧ ¬ (65535 : Int32) < c) (l2 : cs.length ≤ 4000)
    {y t' : Addr} {kb' : ClassId} {ds : List Int32} {cd' N2' : Int32} {vs' : List Value} (E' : RoadKit.Exa Z h y ST) (V' : RoadKit.Fld Z h y ST "value" "[B" (.ref t')) (C' : RoadKit.Fld Z h y ST "coder" "B" (.int cd')) (K' : RoadKit.Arv Z h t' kb' .byte N2' vs' (.int 0)) (hc' : CodA ds cd' N2' vs') (hb' : ∀ c ∈ ds, ¬ c < 0 ∧ ¬ (65535 : Int32) < c) (l2' : ds.length ≤ 4000)
    {z : Int32} (S : RoadKit.Sta Z h ST "COMPACT_STRINGS" "Z" (.int z)) (hz : ¬ z = 0) (hfr : 2 ≤ R.frames) (hlo : W + 28 ≤ R.locals) :
    Back l R p e below s args (⟨"java/lang/String", "equals", "(Ljava/lang/Object;)Z"⟩ : MethodName) len W (fun P a => a = #[.ref x, .ref y] ∧ P.U.heap = h ∧ P.cells + 0 ≤ R.cells ∧ P.slots + 0 ≤ R.slots)
      (fun P _ v B => ∃ L, (((v = some (.int 1) ∧ cs = ds) ∨ (v = some (.int 0) ∧ ¬ cs = ds)) ∧ L = [] ∧ B.U.heap = h) ∧ B.locs = P.locs ++ L ∧ B.cells = P.cells + 0 ∧ B.slots = P.slots + 0) := by
  intro m meth c P g ig mk a X hg hsize hdg hW hn hp'
  obtain ⟨rfl, rfl, r1, r2⟩ := hp'
  have al : Z.vm.Alike P.U.vm := hZ.alike.trans X.warmed.alike
  obtain ⟨A, hx⟩ := txt_of wi al E V C K hc hb l2
  obtain ⟨A', hy⟩ := txt_of wi al E' V' C' K' hc' hb' l2'
  obtain ⟨v, B, X', ⟨⟨w, hv, hh, hq⟩, hl, hk, hs⟩, st⟩ := SEq.pays x t A cd cs.length (fun j => cs.getD j 0) y t' A' cd' ds.length (fun j => ds.getD j 0) z (tabEq_of (movedEq hZ hw)) hfr hlo m meth c P g ig mk _ X hg hsize hdg hW hn ⟨r1, r2, rfl, hx, hy, sta_is al S, hz⟩
  refine ⟨v, B, X', ⟨[], ⟨?_, rfl, hh⟩, hl, hk, hs⟩, st⟩
  rcases hq with ⟨rfl, q⟩ | ⟨rfl, q⟩
  · exact Or.inl ⟨hv, (same_list cs ds).mp q⟩
  · exact Or.inr ⟨hv, fun e => q ((same_list cs ds).mpr e)⟩
end StrChars.Road
namespace StrChars.Road
open Jvm Sem ClassFile Op Lib Jvm.Stand Jvm.Free Jvm.Free.XT
open Jvm.Lib.Cold (StaticIs)
/-- what backV says of its String, as the contracts of this text ask it: cs's low bytes, coder 0 -/
theorem codOf {cs : List Int32} {n : Nat} (hn : cs.length = n) (hb : ∀ c ∈ cs, ¬ 255 < c) : CodA cs 0 (Int32.ofNat n) ((cs.map lo8).map Value.int) := Or.inl ⟨rfl, by rw [hn], by simp [List.map_map, Function.comp_def], hb⟩
end StrChars.Road
end Jvm.Pilot.@@N@@
namespace Jvm.Pilot.@@N@@
open Jvm Jvm.ClassFile Sem Op Lib Jvm.Free Jvm.Stand Jvm.LawKit Jvm.RoadKit Bundle Jvm.Pilot.@@N@@.Jvm.D
theorem own_wS {Z : State} {aa : Array Value} (hw : ∀ d ∈ tables_1, d.before aa Z = true) : ∀ a ∈ Bundle.stringAtoms, a.before aa Z = true := fun d hd => hw d ((by decide +kernel : ∀ d ∈ Bundle.stringAtoms, d ∈ tables_1) d hd)
theorem own_wsV {Z : State} {aa : Array Value} (hw : ∀ d ∈ tables_1, d.before aa Z = true) : ∀ d ∈ StrChars.Road.words, d.before aa Z = true := fun d hd => hw d ((by decide +kernel : ∀ d ∈ StrChars.Road.words, d ∈ tables_1) d hd)
theorem own_wsE {Z : State} {aa : Array Value} (hw : ∀ d ∈ tables_1, d.before aa Z = true) : ∀ d ∈ StrChars.Road.wordsEq, d.before aa Z = true := fun d hd => hw d ((by decide +kernel : ∀ d ∈ StrChars.Road.wordsEq, d ∈ tables_1) d hd)
theorem own_EW {Z : State} {aa : Array Value} (hw : ∀ d ∈ tables_1, d.before aa Z = true) : EW Z aa consts_1 := (EW.cons (hw _ (List.mem_of_getElem? (i := 13) rfl)) (by decide) (EW.cons (hw _ (List.mem_of_getElem? (i := 19) rfl)) (by decide) (EW.cons (hw _ (List.mem_of_getElem? (i := 1) rfl)) (by decide) (EW.cons (hw _ (List.mem_of_getElem? (i := 55) rfl)) (by decide) (EW.cons (hw _ (List.mem_of_getElem? (i := 53) rfl)) (by decide) (EW.cons (hw _ (List.mem_of_getElem? (i := 57) rfl)) (by decide) (EW.cons (hw _ (List.mem_of_getElem? (i := 58) rfl)) (by decide) (EW.cons (hw _ (List.mem_of_getElem? (i := 22) rfl)) (by decide) (EW.cons (hw _ (List.mem_of_getElem? (i := 56) rfl)) (by decide) (EW.cons (hw _ (List.mem_of_getElem? (i := 20) rfl)) (by decide) (EW.cons (hw _ (List.mem_of_getElem? (i := 54) rfl)) (by decide) EW.nil)))))))))))
def own_Str (Z : State) (h : Heap) (a : Addr) (cs : List Int32) : Prop := Exa Z h a "java/lang/String" ∧ Fld Z h a "java/lang/String" "coder" "B" (.int 0) ∧ (∃ (b : Addr) (k : ClassId), Fld Z h a "java/lang/String" "value" "[B" (.ref b) ∧ Arv Z h b k .byte (Int32.ofNat cs.length) ((cs.map StrChars.lo8).map Value.int) (.int 0)) ∧ (∀ c ∈ cs, ¬ c < 0 ∧ ¬ (255 : Int32) < c) ∧ cs.length ≤ 4000
theorem own_Str.ext {Z : State} {h h' : Heap} {a : Addr} {cs : List Int32} (F : own_Str Z h a cs) (E : Ext h h') : own_Str Z h' a cs := by
  obtain ⟨f1, f2, ⟨b, k, f3, f4⟩, f5, f6⟩ := F
  exact ⟨f1.ext E, f2.ext E, ⟨b, k, f3.ext E, f4.ext E⟩, f5, f6⟩
theorem own_Str.keep0 {Z : State} {h h' : Heap} {a : Addr} {cs : List Int32} (F : own_Str Z h a cs) (K : Keep h h' []) : own_Str Z h' a cs := by
  obtain ⟨f1, f2, ⟨b, k, f3, f4⟩, f5, f6⟩ := F
  exact ⟨f1.keep K, f2.keep K (fun q => nomatch q), ⟨b, k, f3.keep K (fun q => nomatch q), f4.keep K (fun q => nomatch q)⟩, f5, f6⟩
theorem own_Str.keepE {Z : State} {aa : Array Value} {h h' : Heap} {a x : Addr} {cs : List Int32} {C : String} {k : Nat} (F : own_Str Z h a cs) (K : Keep h h' [x]) (E : Exa Z h x C) (hC : C ≠ "java/lang/String") (wi : (Jvm.Cond.instantiable C k).before aa Z = true) : own_Str Z h' a cs := by
  obtain ⟨f1, f2, ⟨b, kb, f3, f4⟩, f5, f6⟩ := F
  have n1 : a ≠ x := Exa.ne f1 E (Ne.symm hC)
  have n2 : b ≠ x := Ne.symm (Exa.neArv E f4 wi)
  exact ⟨f1.keep K, f2.keep K (fun q => n1 (List.mem_singleton.mp q)), ⟨b, kb, f3.keep K (fun q => n1 (List.mem_singleton.mp q)), f4.keep K (fun q => n2 (List.mem_singleton.mp q))⟩, f5, f6⟩
theorem own_up {cs : List Int32} (h : ∀ c ∈ cs, ¬ c < 0 ∧ ¬ (255 : Int32) < c) : ∀ c ∈ cs, ¬ c < 0 ∧ ¬ (65535 : Int32) < c := fun c hc => ⟨(h c hc).1, fun q => (h c hc).2 (by rw [Int32.lt_iff_toInt_lt] at q ⊢; have e1 : (65535 : Int32).toInt = 65535 := rfl; have e2 : (255 : Int32).toInt = 255 := rfl; omega)⟩
def own_q (cs ds : List Int32) : Int32 := if cs = ds then 1 else 0
theorem own_qv {cs ds : List Int32} {v : Option Value} (h : (v = some (.int 1) ∧ cs = ds) ∨ (v = some (.int 0) ∧ ¬ cs = ds)) : v = some (.int (own_q cs ds)) := by
  rcases h with ⟨h1, h2⟩ | ⟨h1, h2⟩
  · rw [h1, own_q, if_pos h2]
  · rw [h1, own_q, if_neg h2]
theorem own_nar (cs ds : List Int32) : nar .boolean (own_q cs ds) = own_q cs ds := by
  unfold own_q
  split <;> rfl
def own_html : List Int32 := [(116 : Int32), (101 : Int32), (120 : Int32), (116 : Int32), (47 : Int32), (104 : Int32), (116 : Int32), (109 : Int32), (108 : Int32)]
def own_ct (cs : List Int32) : List Int32 := if cs = own_html then [(116 : Int32), (101 : Int32), (120 : Int32), (116 : Int32), (47 : Int32), (104 : Int32), (116 : Int32), (109 : Int32), (108 : Int32), (59 : Int32), (99 : Int32), (104 : Int32), (97 : Int32), (114 : Int32), (115 : Int32), (101 : Int32), (116 : Int32), (61 : Int32), (117 : Int32), (116 : Int32), (102 : Int32), (45 : Int32), (56 : Int32)] else cs
theorem own_chars (x : Int32) : ¬ nar .char ((x &&& (255 : Int32)).toUInt32.toUInt16.toUInt32.toInt32) < 0 ∧ ¬ (255 : Int32) < nar .char ((x &&& (255 : Int32)).toUInt32.toUInt16.toUInt32.toInt32) := by
  have t : ∀ k : Fin 256, ¬ nar .char ((Int32.ofNat k.val).toUInt32.toUInt16.toUInt32.toInt32) < 0 ∧ ¬ (255 : Int32) < nar .char ((Int32.ofNat k.val).toUInt32.toUInt16.toUInt32.toInt32) := by decide +kernel
  have h : (x &&& 255).toBitVec.toNat < 256 := by
    simp only [Int32.toBitVec_and, BitVec.toNat_and]
    exact Nat.lt_succ_of_le Nat.and_le_right
  have e : (x &&& 255) = Int32.ofNat (x &&& 255).toBitVec.toNat := by
    apply Int32.toBitVec_inj.mp
    show _ = BitVec.ofNat 32 _
    rw [BitVec.ofNat_toNat]; simp
  rw [e]
  exact t ⟨_, h⟩
theorem own_nc (x : Int32) : nar .char (x.toUInt32.toUInt16.toUInt32.toInt32) = x.toUInt32.toUInt16.toUInt32.toInt32 := by
  simp only [nar, UInt32.toUInt32_toInt32, UInt16.toUInt16_toUInt32]
theorem own_mod (x D : Int32) (d : Int) (hD : D.toInt = d) (hd : 0 < d) : 0 ≤ ((x &&& (2147483647 : Int32)) % D).toInt ∧ ((x &&& (2147483647 : Int32)) % D).toInt < d := by
  have h := c_mask x 2147483647 31 (by decide) (by decide)
  have g := (c_irem (x &&& (2147483647 : Int32)) D d hD).1 (by omega)
  rw [g]
  have := Int.emod_nonneg (x &&& (2147483647 : Int32)).toInt (show d ≠ 0 by omega)
  have := Int.emod_lt_of_pos (x &&& (2147483647 : Int32)).toInt hd
  omega
theorem own_k {k x : Int32} (h : k = ((x &&& (2147483647 : Int32)) % (5 : Int32))) : k = 0 ∨ k = 1 ∨ k = 2 ∨ k = 3 ∨ k = 4 := by
  have g := own_mod x 5 5 (by decide) (by decide)
  have g' : 0 ≤ k.toInt ∧ k.toInt < 5 := by rw [h]; exact g
  have e0 : (0 : Int32).toInt = 0 := by decide
  have e1 : (1 : Int32).toInt = 1 := by decide
  have e2 : (2 : Int32).toInt = 2 := by decide
  have e3 : (3 : Int32).toInt = 3 := by decide
  have e4 : (4 : Int32).toInt = 4 := by decide
  simp only [← Int32.toInt_inj, e0, e1, e2, e3, e4]
  omega
theorem own_j {k x : Int32} (h : k = ((x &&& (2147483647 : Int32)) % (6 : Int32))) : k = 0 ∨ k = 1 ∨ k = 2 ∨ k = 3 ∨ k = 4 ∨ k = 5 := by
  have g := own_mod x 6 6 (by decide) (by decide)
  have g' : 0 ≤ k.toInt ∧ k.toInt < 6 := by rw [h]; exact g
  have e0 : (0 : Int32).toInt = 0 := by decide
  have e1 : (1 : Int32).toInt = 1 := by decide
  have e2 : (2 : Int32).toInt = 2 := by decide
  have e3 : (3 : Int32).toInt = 3 := by decide
  have e4 : (4 : Int32).toInt = 4 := by decide
  have e5 : (5 : Int32).toInt = 5 := by decide
  simp only [← Int32.toInt_inj, e0, e1, e2, e3, e4, e5]
  omega
theorem own_p {p x : Int32} (h : p = ((x &&& (2147483647 : Int32)) % (10 : Int32))) (h9 : p < (9 : Int32)) : ¬ p < 0 ∧ p.toNatClampNeg < 9 := by
  have g := own_mod x 10 10 (by decide) (by decide)
  have g' : 0 ≤ p.toInt ∧ p.toInt < 10 := by rw [h]; exact g
  have e9 : (9 : Int32).toInt = 9 := by decide
  have e0 : (0 : Int32).toInt = 0 := by decide
  rw [Int32.lt_iff_toInt_lt, e9] at h9
  rw [Int32.lt_iff_toInt_lt, e0]
  simp only [Int32.toNatClampNeg]
  omega
theorem own_n3 {k x : Int32} (h : k = (x &&& (3 : Int32))) : k = 0 ∨ k = 1 ∨ k = 2 ∨ k = 3 := by
  have g := c_mask x 3 2 (by decide) (by decide)
  rw [← h] at g
  have e0 : (0 : Int32).toInt = 0 := by decide
  have e1 : (1 : Int32).toInt = 1 := by decide
  have e2 : (2 : Int32).toInt = 2 := by decide
  have e3 : (3 : Int32).toInt = 3 := by decide
  simp only [← Int32.toInt_inj, e0, e1, e2, e3]
  omega
theorem own_setq (i : Nat) (hi : i < 9) (c : Int32) : own_q (own_html.set i c) own_html = if c = own_html.getD i 0 then 1 else 0 := by
  have key : own_html.set i c = own_html ↔ c = own_html.getD i 0 := by
    have hl : own_html.length = 9 := rfl
    constructor
    · intro h
      have := congrArg (fun l => l.getD i 0) h
      simp only [List.getD_eq_getElem?_getD] at this ⊢
      rw [List.getElem?_set_self (by omega)] at this
      simpa using this
    · intro h
      subst h
      rw [List.getD_eq_getElem?_getD, List.getElem?_eq_getElem (by omega)]
      simp
  unfold own_q
  by_cases h : c = own_html.getD i 0
  · rw [if_pos h, if_pos (key.mpr h)]
  · rw [if_neg h, if_neg (fun q => h (key.mp q))]
theorem own_len {cs : List Int32} (h : cs.length ≠ 9) : own_q cs own_html = 0 := by
  unfold own_q
  rw [if_neg]
  intro q
  apply h
  rw [q]
  rfl
theorem d1_0 : decode prog_19_method_2_code 0 = .ok (.aload_n 0, 1) := by decide +kernel
theorem d1_1 : decode prog_19_method_2_code 1 = .ok (.ldc 9, 2) := by decide +kernel
theorem d1_3 : decode prog_19_method_2_code 3 = .ok (.invokevirtual 11, 3) := by decide +kernel
theorem d1_6 : decode prog_19_method_2_code 6 = .ok (.ifCond .eq 8, 3) := by decide +kernel
theorem d1_9 : decode prog_19_method_2_code 9 = .ok (.ldc 17, 2) := by decide +kernel
theorem d1_11 : decode prog_19_method_2_code 11 = .ok (.goto 4, 3) := by decide +kernel
theorem d1_14 : decode prog_19_method_2_code 14 = .ok (.aload_n 0, 1) := by decide +kernel
theorem d1_15 : decode prog_19_method_2_code 15 = .ok (.areturn, 1) := by decide +kernel
theorem pn_com_example_affordance_affordance_MediaTypes : plainName "com/example/affordance/affordance/MediaTypes" = true := by first | (simp [plainName, overriddenIn]; done) | decide +kernel
theorem pd_PLjava_lang_Object_QZ : parseMethodDescriptor "(Ljava/lang/Object;)Z" = some ⟨[(.object "java/lang/Object")], some .boolean⟩ := by decide +kernel
theorem ef_rm1 (m : MethodId) (a0 : Addr) : entryFrame m #[(.ref a0)] 1 = (mkF m 0 #[.val (.ref a0)] []) := by first | (simp [entryFrame, mkF, argsToLocals, Value.category]; done) | rfl
def Q1 (Z : State) (a0 : Addr) (cs : List Int32) (G1 : Int32) (h0 : Heap) (n0 : Nat) (v : Option Value) (h : Heap) (L : List Loc) : Prop := ∃ r : Addr, v = some (.ref r) ∧ Fr n0 L ∧ Keep h0 h [] ∧ own_Str Z h r (own_ct cs)
set_option maxRecDepth 65536 in
set_option maxHeartbeats 40000000 in
theorem rm1 (l : Launch) (Z : State) (aa : Array Value) (hw : ∀ d ∈ tables_1, d.before aa Z = true) (hEL : EW Z aa consts_1) (ws : List Jvm.Cond) (a0 : Addr) (cs : List Int32) (G1 : Int32) (h0 : Heap) (n0 : Nat) (Z0 : n0 ≤ h0.size) (O2 : Sta Z Z.heap "java/lang/String" "COMPACT_STRINGS" "Z" (.int G1)) (P5 : ¬ (G1 = (0 : Int32))) (HO : Old Z n0 h0) (S0 : own_Str Z h0 a0 cs) :
    MetFree l (⟨"com/example/affordance/affordance/MediaTypes", "contentType", "(Ljava/lang/String;)Ljava/lang/String;"⟩ : MethodName) (head1 (Jvm.Cond.code (⟨"com/example/affordance/affordance/MediaTypes", "contentType", "(Ljava/lang/String;)Ljava/lang/String;"⟩ : MethodName) prog_19_method_2_code 1 (some (.object "java/lang/String")) :: ws) ({ frames := 2, cells := 4, slots := 136, locals := 28 } : Room)) (fun a U => a = #[(.ref a0)] ∧ Z.Warmed39 U.vm ∧ U.heap = h0 ∧ CHv Z consts_1 U.vm h0) (fun _ _ _ _ _ => True) (fun _ U o U' => ∃ v L, o = .returned v ∧ Q1 Z a0 cs G1 h0 n0 v U'.heap L ∧ CHr Z consts_1 U.vm U.heap U'.vm U'.heap ∧ ReturnedEndW U o U' L ({ frames := 2, cells := 4, slots := 136, locals := 28 } : Room).cells ({ frames := 2, cells := 4, slots := 136, locals := 28 } : Room).slots) := by
  refine MetFree.of_bodySF (plainFor_of_name pn_com_example_affordance_affordance_MediaTypes) hisR ?_
  intro p e s m args below meth c s₁ Bd hml0 hP hK
  obtain ⟨rfl, hZ, hh, hCH⟩ := hP
  have hx := Bd.exec
  have hby := Bd.bytes
  have hml : c.maxLocals = 1 := hml0
  have hown : s.vm.findClass "com/example/affordance/affordance/MediaTypes" = some m.cls := findClass_of_methodNamed Bd.named
  have hnm := (name_of_methodNamed Bd.named Bd.method).1
  have X0 : Stand p l e ({ frames := 2, cells := 4, slots := 136, locals := 28 } : Room) (s.setVm s.vm) m #[(.ref a0)] below meth c s₁ [] 0 0 := (Stand.of_body Bd : Stand p l e ({ frames := 2, cells := 4, slots := 136, locals := 28 } : Room) s m #[(.ref a0)] below meth c s₁ [] 0 0)
  have hS0 : s.Since s.vm h0.size := (State.WarmedH.refl s).since _
  have hk0 : h0.size ≤ h0.size := Nat.le_refl _
  have CH0 : CHr Z consts_1 s.vm h0 s.vm h0 := CHr.refl hCH
  have e0 : s₁.heap = h0 := by rw [← hh, Bd.state]; rfl
  have N0 := Fr.nil n0
  obtain ⟨G0, hG0⟩ : ∃ G, G = s₁.setTop (entryFrame m #[(.ref a0)] 1) := ⟨_, rfl⟩
  have K0 : ∀ t, Steps p.tables e below (s₁.setTop (mkF m 0 #[.val (.ref a0)] [])) t → Steps p.tables e below G0 t := fun t k => by rw [hG0]; exact castTop (ef_rm1 m a0) k
  have K1 : ∀ t, Steps p.tables e below (s₁.setTop (mkF m 1 #[.val (.ref a0)] [(.ref a0)])) t → Steps p.tables e below G0 t := by
    intro t kt
    refine K0 t ?_
    refine XS.aloadN X0.here hx rfl (hb hby d1_0) rfl rfl ?_
    show Steps p.tables e below (s₁.setTop (mkF m 1 #[.val (.ref a0)] [(.ref a0)])) _
    exact kt
  obtain ⟨a2, T2, h2, kk2, bb2, kc2, X2, e2, E2, hS2, hk2, hZ2, hown2, LE2, LC2, LV2, LA2, la2, lb2, CR2, -, -, st2⟩ := ldcCH X0 hx hZ hown (hw _ (List.mem_of_getElem? (i := 13) rfl)) (own_wS hw) e0 hS0 hk0 hEL (by decide +kernel) CH0.1 (vs := [(.int (116 : Int32)), (.int (101 : Int32)), (.int (120 : Int32)), (.int (116 : Int32)), (.int (47 : Int32)), (.int (104 : Int32)), (.int (116 : Int32)), (.int (109 : Int32)), (.int (108 : Int32))]) (z := (9 : Int32)) ⟨by decide, by decide⟩ (by decide) (by decide) (g := (mkF m 1 #[.val (.ref a0)] [(.ref a0)])) rfl (hb hby d1_1) (n := 36) (by decide) (by decide) (by decide) (by decide)
  have K2 : ∀ t, Steps p.tables e below (T2.setTop (mkF m 3 #[.val (.ref a0)] [(.ref a2), (.ref a0)])) t → Steps p.tables e below G0 t := fun t kt => K1 t (st2 _ kt)
  have Z2 : n0 ≤ h2.size := Nat.le_trans Z0 E2.1
  have CH2 := CH0.trans CR2
  have hl2 : ((([(116 : Int32), (101 : Int32), (120 : Int32), (116 : Int32), (47 : Int32), (104 : Int32), (116 : Int32), (109 : Int32), (108 : Int32)] : List Int32).map StrChars.lo8).map Value.int) = [(.int (116 : Int32)), (.int (101 : Int32)), (.int (120 : Int32)), (.int (116 : Int32)), (.int (47 : Int32)), (.int (104 : Int32)), (.int (116 : Int32)), (.int (109 : Int32)), (.int (108 : Int32))] := by decide +kernel
  have sl2 : own_Str Z h2 a2 [(116 : Int32), (101 : Int32), (120 : Int32), (116 : Int32), (47 : Int32), (104 : Int32), (116 : Int32), (109 : Int32), (108 : Int32)] := ⟨LE2, LC2, ⟨_, _, LV2, by rw [hl2]; exact LA2⟩, by decide, by decide⟩
  have KQ3_0 := Keep.refl h0 []
  have KQ3_1 := KQ3_0.ext E2
  have s4 := own_Str.keep0 S0 KQ3_1
  obtain ⟨EX5, CX5, ⟨bX5, kX5, VX5, KX5⟩, pX5, lX5⟩ := id s4
  obtain ⟨EY5, CY5, ⟨bY5, kY5, VY5, KY5⟩, pY5, lY5⟩ := id sl2
  have f6 := (HO.ext E2)
  obtain ⟨cq7, kq7, q7a, q7b, q7c⟩ := isOf hZ2 e2 EX5
  obtain ⟨v8, _, ⟨T8, L8, k8, n8⟩, -, X8, ⟨Lc8, hQ8, l8, y8, z8⟩, st8⟩ := X2.virtualBack hx (y := (⟨"java/lang/String", "equals", "(Ljava/lang/Object;)Z"⟩ : MethodName)) (z := (⟨"java/lang/String", "equals", "(Ljava/lang/Object;)Z"⟩ : MethodName)) hown2 (mvT hZ2 (hw _ (List.mem_of_getElem? (i := 14) rfl))) (mvT hZ2 (hw _ (List.mem_of_getElem? (i := 15) rfl))) (notFace_of_selects (args := #[]) (mvT hZ2 (hw _ (List.mem_of_getElem? (i := 17) rfl)))) (mvT hZ2 (hw _ (List.mem_of_getElem? (i := 17) rfl))) (mvT hZ2 (hw _ (List.mem_of_getElem? (i := 16) rfl))) (by decide) (StrChars.Road.eqW (W := 0) hZ2 (own_wsE hw) (kI := 4) (hw _ (List.mem_of_getElem? (i := 3) rfl)) EX5 VX5 CX5 KX5 (StrChars.Road.codOf rfl (fun c hc => (pX5 c hc).2)) (own_up pX5) lX5 EY5 VY5 CY5 KY5 (StrChars.Road.codOf rfl (fun c hc => (pY5 c hc).2)) (own_up pY5) lY5 (O2.ext f6.2) P5 (by decide) (by decide)) q7a q7c (g := (mkF m 3 #[.val (.ref a0)] [(.ref a2), (.ref a0)])) rfl (by rw [hml]; rfl) (Steps.refl _) (argsL := [(.ref a2)]) (rest := []) (lenOf pd_PLjava_lang_Object_QZ rfl) rfl (by show 2 * 0 + _ ≤ _; exact Nat.le_of_eq rfl) (hb hby d1_3) (fun _ _ => ⟨rfl, e2, (by decide : 2 + 0 ≤ _), (by decide : 40 + 0 ≤ _)⟩)
  dsimp only [Pt.U, Pt.locs, Pt.cells, Pt.slots] at X8 l8 y8 z8 st8 hQ8
  subst l8 y8 z8
  obtain ⟨hv8, rfl, e8⟩ := hQ8
  obtain rfl := own_qv hv8
  have N8 := Fr.app N0 (Fr.nil n0)
  have K8 : ∀ t, Steps p.tables e below (T8.setTop (mkF m 6 #[.val (.ref a0)] [(.int (own_q cs [(116 : Int32), (101 : Int32), (120 : Int32), (116 : Int32), (47 : Int32), (104 : Int32), (116 : Int32), (109 : Int32), (108 : Int32)]))])) t → Steps p.tables e below G0 t := fun t kt => K2 t (st8.trans kt)
  by_cases hc9 : cs = own_html
  ·
    have K10 : ∀ t, Steps p.tables e below (T8.setTop (mkF m 9 #[.val (.ref a0)] [])) t → Steps p.tables e below G0 t := by
      intro t kt
      refine K8 t ?_
      refine XS.ifNo X8.here hx rfl (hb hby d1_6) rfl ((if0 _ _).trans (feq (by rw [show own_q cs [(116 : Int32), (101 : Int32), (120 : Int32), (116 : Int32), (47 : Int32), (104 : Int32), (116 : Int32), (109 : Int32), (108 : Int32)] = 1 from if_pos hc9]; decide)).1) ?_
      show Steps p.tables e below (T8.setTop (mkF m 9 #[.val (.ref a0)] [])) _
      exact kt
    obtain ⟨a11, T11, h11, kk11, bb11, kc11, X11, e11, E11, hS11, hk11, hZ11, hown11, LE11, LC11, LV11, LA11, la11, lb11, CR11, -, -, st11⟩ := ldcCH X8 hx hZ2 hown2 (hw _ (List.mem_of_getElem? (i := 19) rfl)) (own_wS hw) e8 hS2 hk2 hEL (by decide +kernel) CH2.1 (vs := [(.int (116 : Int32)), (.int (101 : Int32)), (.int (120 : Int32)), (.int (116 : Int32)), (.int (47 : Int32)), (.int (104 : Int32)), (.int (116 : Int32)), (.int (109 : Int32)), (.int (108 : Int32)), (.int (59 : Int32)), (.int (99 : Int32)), (.int (104 : Int32)), (.int (97 : Int32)), (.int (114 : Int32)), (.int (115 : Int32)), (.int (101 : Int32)), (.int (116 : Int32)), (.int (61 : Int32)), (.int (117 : Int32)), (.int (116 : Int32)), (.int (102 : Int32)), (.int (45 : Int32)), (.int (56 : Int32))]) (z := (23 : Int32)) ⟨by decide, by decide⟩ (by decide) (by decide) (g := (mkF m 9 #[.val (.ref a0)] [])) rfl (hb hby d1_9) (n := 92) (by decide) (by decide) (by decide) (by decide)
    have K11 : ∀ t, Steps p.tables e below (T11.setTop (mkF m 11 #[.val (.ref a0)] [(.ref a11)])) t → Steps p.tables e below G0 t := fun t kt => K10 t (st11 _ kt)
    have Z11 : n0 ≤ h11.size := Nat.le_trans Z2 E11.1
    have CH11 := CH2.trans CR11
    have hl11 : ((([(116 : Int32), (101 : Int32), (120 : Int32), (116 : Int32), (47 : Int32), (104 : Int32), (116 : Int32), (109 : Int32), (108 : Int32), (59 : Int32), (99 : Int32), (104 : Int32), (97 : Int32), (114 : Int32), (115 : Int32), (101 : Int32), (116 : Int32), (61 : Int32), (117 : Int32), (116 : Int32), (102 : Int32), (45 : Int32), (56 : Int32)] : List Int32).map StrChars.lo8).map Value.int) = [(.int (116 : Int32)), (.int (101 : Int32)), (.int (120 : Int32)), (.int (116 : Int32)), (.int (47 : Int32)), (.int (104 : Int32)), (.int (116 : Int32)), (.int (109 : Int32)), (.int (108 : Int32)), (.int (59 : Int32)), (.int (99 : Int32)), (.int (104 : Int32)), (.int (97 : Int32)), (.int (114 : Int32)), (.int (115 : Int32)), (.int (101 : Int32)), (.int (116 : Int32)), (.int (61 : Int32)), (.int (117 : Int32)), (.int (116 : Int32)), (.int (102 : Int32)), (.int (45 : Int32)), (.int (56 : Int32))] := by decide +kernel
    have sl11 : own_Str Z h11 a11 [(116 : Int32), (101 : Int32), (120 : Int32), (116 : Int32), (47 : Int32), (104 : Int32), (116 : Int32), (109 : Int32), (108 : Int32), (59 : Int32), (99 : Int32), (104 : Int32), (97 : Int32), (114 : Int32), (115 : Int32), (101 : Int32), (116 : Int32), (61 : Int32), (117 : Int32), (116 : Int32), (102 : Int32), (45 : Int32), (56 : Int32)] := ⟨LE11, LC11, ⟨_, _, LV11, by rw [hl11]; exact LA11⟩, by decide, by decide⟩
    have K12 : ∀ t, Steps p.tables e below (T11.setTop (mkF m 15 #[.val (.ref a0)] [(.ref a11)])) t → Steps p.tables e below G0 t := by
      intro t kt
      refine K11 t ?_
      refine XS.goto X11.here hx rfl (pc0 := 11) (pc' := 15) rfl (hb hby d1_11) (by decide) (by decide) ?_
      show Steps p.tables e below (T11.setTop (mkF m 15 #[.val (.ref a0)] [(.ref a11)])) _
      exact kt
    have KQ13_0 := Keep.refl h0 []
    have KQ13_1 := KQ13_0.ext E2
    have KQ13_2 := KQ13_1.ext E11
    obtain ⟨fs, hr, hrun, hended, hREW⟩ := X11.leaveW hS11 (by rw [e11]; exact hk11) (v := some (.ref a11)) (fun h => by rw [Bd.returns] at h; cases h)
    have CHE := CH11.trans (CHv.at X11 hZ11 hEL CH11.1)
    refine ⟨_, _, ?_, hrun, hended, _, _, rfl, ?_, ?_, hREW.1, hREW.2.1, hREW.2.2.1, hREW.2.2.2.mono (by decide) (by decide)⟩
    · rw [← hG0]
      refine K12 _ ?_
      exact retOut X11 hx (t := (.object "java/lang/String")) Bd.returns rfl (Or.inr (Or.inr (Or.inr (Or.inr ⟨rfl, rfl, rfl⟩)))) (hb hby d1_15) hr
    · show Q1 Z a0 cs G1 h0 n0 _ T11.heap _
      rw [e11]
      exact ⟨_, rfl, N8, KQ13_2, by rw [own_ct, if_pos hc9]; exact sl11⟩
    · rw [hh]
      show CHr Z consts_1 s.vm h0 T11.vm T11.heap
      rw [e11]
      exact CHE
  ·
    have K14 : ∀ t, Steps p.tables e below (T8.setTop (mkF m 15 #[.val (.ref a0)] [(.ref a0)])) t → Steps p.tables e below G0 t := by
      intro t kt
      refine K8 t ?_
      refine XS.ifYes X8.here hx rfl (pc0 := 6) (pc' := 14) rfl (hb hby d1_6) rfl ((if0 _ _).trans (teq (show own_q cs [(116 : Int32), (101 : Int32), (120 : Int32), (116 : Int32), (47 : Int32), (104 : Int32), (116 : Int32), (109 : Int32), (108 : Int32)] = 0 from if_neg hc9)).1) (by decide) (by decide) ?_
      show Steps p.tables e below (T8.setTop (mkF m 14 #[.val (.ref a0)] [])) _
      refine XS.aloadN X8.here hx rfl (hb hby d1_14) rfl rfl ?_
      show Steps p.tables e below (T8.setTop (mkF m 15 #[.val (.ref a0)] [(.ref a0)])) _
      exact kt
    have KQ15_0 := Keep.refl h0 []
    have KQ15_1 := KQ15_0.ext E2
    obtain ⟨fs, hr, hrun, hended, hREW⟩ := X8.leaveW hS2 (by rw [e8]; exact hk2) (v := some (.ref a0)) (fun h => by rw [Bd.returns] at h; cases h)
    have CHE := CH2.trans (CHv.at X8 hZ2 hEL CH2.1)
    refine ⟨_, _, ?_, hrun, hended, _, _, rfl, ?_, ?_, hREW.1, hREW.2.1, hREW.2.2.1, hREW.2.2.2.mono (by decide) (by decide)⟩
    · rw [← hG0]
      refine K14 _ ?_
      exact retOut X8 hx (t := (.object "java/lang/String")) Bd.returns rfl (Or.inr (Or.inr (Or.inr (Or.inr ⟨rfl, rfl, rfl⟩)))) (hb hby d1_15) hr
    · show Q1 Z a0 cs G1 h0 n0 _ T8.heap _
      rw [e8]
      exact ⟨_, rfl, N8, KQ15_1, by rw [own_ct, if_neg hc9]; exact s4⟩
    · rw [hh]
      show CHr Z consts_1 s.vm h0 T8.vm T8.heap
      rw [e8]
      exact CHE
theorem own_safe {Z : State} {vm : Vm} {h : Heap} {EL : List (String × Nat)} {x : Addr} (hal : Z.vm.Alike vm) (E : Exa Z h x "java/lang/String") (F : Fld Z h x "java/lang/String" "value" "[B" .null) : Safe Z EL vm h x := fun B => by
  obtain ⟨p, -, u, a, -, q, -, G, rfl | rfl⟩ := B
  · obtain ⟨cell, cf, k, i, f, f1, f2, f3, f4, f5, f6, f7⟩ := F
    cases (show h[q.sa]? = some q.sC from G.ha).symm.trans f1
    obtain ⟨cS, ⟨⟨-, -, -, ⟨c1, k1, i1, g1, -⟩, -, -, -, v1, -⟩, -⟩, -⟩ := G
    obtain ⟨k3, e3, -⟩ := State.fieldFound?_setVm (s := { Z with heap := h }) hal f2
    have e4 := (show (Wst Z vm h).fieldFound? _ _ _ = _ from e3).symm.trans g1
    cases e4
    rw [f7] at v1
    cases v1
  · obtain ⟨cell, k, e1, e2, e3, -, -⟩ := E
    cases (show h[q.sd]? = some q.SA from G.hd).symm.trans e1
    obtain ⟨cS, -, -, f, -⟩ := G
    have f' : vm.findClass "[B" = some q.SA.cls := f
    rw [hal.findClass] at f'
    obtain ⟨k1, q1, q2⟩ := Vm.findClass_spec f'
    obtain ⟨k2, q3, q4⟩ := Vm.findClass_spec e2
    cases q1.symm.trans q3
    exact absurd (q2.symm.trans q4) (by decide)
theorem d5_0 : decode jdk_42_method_149_code 0 = .ok (.aload_n 0, 1) := by decide +kernel
theorem d5_1 : decode jdk_42_method_149_code 1 = .ok (.invokespecial 1, 3) := by decide +kernel
theorem d5_4 : decode jdk_42_method_149_code 4 = .ok (.iload_n 3, 1) := by decide +kernel
theorem d5_5 : decode jdk_42_method_149_code 5 = .ok (.ifCond .ne 22, 3) := by decide +kernel
theorem d5_8 : decode jdk_42_method_149_code 8 = .ok (.aload_n 0, 1) := by decide +kernel
theorem d5_9 : decode jdk_42_method_149_code 9 = .ok (.ldc 7, 2) := by decide +kernel
theorem d5_11 : decode jdk_42_method_149_code 11 = .ok (.getfield 9, 3) := by decide +kernel
theorem d5_14 : decode jdk_42_method_149_code 14 = .ok (.putfield 9, 3) := by decide +kernel
theorem d5_17 : decode jdk_42_method_149_code 17 = .ok (.aload_n 0, 1) := by decide +kernel
theorem d5_18 : decode jdk_42_method_149_code 18 = .ok (.ldc 7, 2) := by decide +kernel
theorem d5_20 : decode jdk_42_method_149_code 20 = .ok (.getfield 15, 3) := by decide +kernel
theorem d5_23 : decode jdk_42_method_149_code 23 = .ok (.putfield 15, 3) := by decide +kernel
theorem d5_26 : decode jdk_42_method_149_code 26 = .ok (.return_, 1) := by decide +kernel
theorem d5_27 : decode jdk_42_method_149_code 27 = .ok (.getstatic 38, 3) := by decide +kernel
theorem d5_30 : decode jdk_42_method_149_code 30 = .ok (.ifCond .eq 28, 3) := by decide +kernel
theorem d5_33 : decode jdk_42_method_149_code 33 = .ok (.aload_n 1, 1) := by decide +kernel
theorem d5_34 : decode jdk_42_method_149_code 34 = .ok (.iload_n 2, 1) := by decide +kernel
theorem d5_35 : decode jdk_42_method_149_code 35 = .ok (.iload_n 3, 1) := by decide +kernel
theorem d5_36 : decode jdk_42_method_149_code 36 = .ok (.invokestatic 177, 3) := by decide +kernel
theorem d5_39 : decode jdk_42_method_149_code 39 = .ok (.astore 5, 2) := by decide +kernel
theorem d5_41 : decode jdk_42_method_149_code 41 = .ok (.aload_n 0, 1) := by decide +kernel
theorem d5_42 : decode jdk_42_method_149_code 42 = .ok (.aload 5, 2) := by decide +kernel
theorem d5_44 : decode jdk_42_method_149_code 44 = .ok (.iload_n 3, 1) := by decide +kernel
theorem d5_45 : decode jdk_42_method_149_code 45 = .ok (.invokestatic 47, 3) := by decide +kernel
theorem d5_48 : decode jdk_42_method_149_code 48 = .ok (.putfield 15, 3) := by decide +kernel
theorem d5_51 : decode jdk_42_method_149_code 51 = .ok (.aload_n 0, 1) := by decide +kernel
theorem d5_52 : decode jdk_42_method_149_code 52 = .ok (.aload 5, 2) := by decide +kernel
theorem d5_54 : decode jdk_42_method_149_code 54 = .ok (.putfield 9, 3) := by decide +kernel
theorem d5_57 : decode jdk_42_method_149_code 57 = .ok (.return_, 1) := by decide +kernel
theorem d5_58 : decode jdk_42_method_149_code 58 = .ok (.aload_n 0, 1) := by decide +kernel
theorem d5_59 : decode jdk_42_method_149_code 59 = .ok (.iconst 1, 1) := by decide +kernel
theorem d5_60 : decode jdk_42_method_149_code 60 = .ok (.putfield 15, 3) := by decide +kernel
theorem d5_63 : decode jdk_42_method_149_code 63 = .ok (.aload_n 0, 1) := by decide +kernel
theorem d5_64 : decode jdk_42_method_149_code 64 = .ok (.aload_n 1, 1) := by decide +kernel
theorem d5_65 : decode jdk_42_method_149_code 65 = .ok (.iload_n 2, 1) := by decide +kernel
theorem d5_66 : decode jdk_42_method_149_code 66 = .ok (.iload_n 3, 1) := by decide +kernel
theorem d5_67 : decode jdk_42_method_149_code 67 = .ok (.invokestatic 180, 3) := by decide +kernel
theorem d5_70 : decode jdk_42_method_149_code 70 = .ok (.putfield 9, 3) := by decide +kernel
theorem d5_73 : decode jdk_42_method_149_code 73 = .ok (.return_, 1) := by decide +kernel
theorem pn_java_lang_String : plainName "java/lang/String" = true := by first | (simp [plainName, overriddenIn]; done) | decide +kernel
theorem ef_rm5e (m : MethodId) (a0 : Addr) (a1 : Addr) : entryFrame m #[(.ref a0), (.ref a1), (.int (0 : Int32)), (.int (0 : Int32)), .null] 6 = (mkF m 0 #[.val (.ref a0), .val (.ref a1), .val (.int (0 : Int32)), .val (.int (0 : Int32)), .val .null, .unset] []) := by first | (simp [entryFrame, mkF, argsToLocals, Value.category]; done) | rfl
def Q5e (Z : State) (a0 : Addr) (a1 : Addr) (h0 : Heap) (n0 : Nat) (v : Option Value) (h : Heap) (L : List Loc) : Prop := v = none ∧ Fr n0 L ∧ Keep h0 h [a0] ∧ own_Str Z h a0 []
set_option maxRecDepth 65536 in
set_option maxHeartbeats 40000000 in
theorem rm5e (l : Launch) (Z : State) (aa : Array Value) (hw : ∀ d ∈ tables_1, d.before aa Z = true) (hEL : EW Z aa consts_1) (ws : List Jvm.Cond) (a0 : Addr) (a1 : Addr) (h0 : Heap) (n0 : Nat) (Z0 : n0 ≤ h0.size) (gn : n0 ≤ a0) (E0 : Exa Z h0 a0 "java/lang/String") (F_value : Fld Z h0 a0 "java/lang/String" "value" "[B" .null) (F_coder : Fld Z h0 a0 "java/lang/String" "coder" "B" (.int (0 : Int32))) :
    MetFree l (⟨"java/lang/String", "<init>", "([CIILjava/lang/Void;)V"⟩ : MethodName) (head1 (Jvm.Cond.code (⟨"java/lang/String", "<init>", "([CIILjava/lang/Void;)V"⟩ : MethodName) jdk_42_method_149_code 6 none :: ws) ({ frames := 1, cells := 4, slots := 8, locals := 12 } : Room)) (fun a U => a = #[(.ref a0), (.ref a1), (.int (0 : Int32)), (.int (0 : Int32)), .null] ∧ Z.Warmed39 U.vm ∧ U.heap = h0 ∧ CHv Z consts_1 U.vm h0) (fun _ _ _ _ _ => True) (fun _ U o U' => ∃ v L, o = .returned v ∧ Q5e Z a0 a1 h0 n0 v U'.heap L ∧ CHr Z consts_1 U.vm U.heap U'.vm U'.heap ∧ ReturnedEndW U o U' L ({ frames := 1, cells := 4, slots := 8, locals := 12 } : Room).cells ({ frames := 1, cells := 4, slots := 8, locals := 12 } : Room).slots) := by
  refine MetFree.of_bodySF (plainFor_of_name pn_java_lang_String) hisR ?_
  intro p e s m args below meth c s₁ Bd hml0 hP hK
  obtain ⟨rfl, hZ, hh, hCH⟩ := hP
  have hx := Bd.exec
  have hby := Bd.bytes
  have hml : c.maxLocals = 6 := hml0
  have hown : s.vm.findClass "java/lang/String" = some m.cls := findClass_of_methodNamed Bd.named
  have hnm := (name_of_methodNamed Bd.named Bd.method).1
  have X0 : Stand p l e ({ frames := 1, cells := 4, slots := 8, locals := 12 } : Room) (s.setVm s.vm) m #[(.ref a0), (.ref a1), (.int (0 : Int32)), (.int (0 : Int32)), .null] below meth c s₁ [] 0 0 := (Stand.of_body Bd : Stand p l e ({ frames := 1, cells := 4, slots := 8, locals := 12 } : Room) s m #[(.ref a0), (.ref a1), (.int (0 : Int32)), (.int (0 : Int32)), .null] below meth c s₁ [] 0 0)
  have hS0 : s.Since s.vm h0.size := (State.WarmedH.refl s).since _
  have hk0 : h0.size ≤ h0.size := Nat.le_refl _
  have CH0 : CHr Z consts_1 s.vm h0 s.vm h0 := CHr.refl hCH
  have e0 : s₁.heap = h0 := by rw [← hh, Bd.state]; rfl
  have N0 := Fr.nil n0
  obtain ⟨G0, hG0⟩ : ∃ G, G = s₁.setTop (entryFrame m #[(.ref a0), (.ref a1), (.int (0 : Int32)), (.int (0 : Int32)), .null] 6) := ⟨_, rfl⟩
  have K0 : ∀ t, Steps p.tables e below (s₁.setTop (mkF m 0 #[.val (.ref a0), .val (.ref a1), .val (.int (0 : Int32)), .val (.int (0 : Int32)), .val .null, .unset] [])) t → Steps p.tables e below G0 t := fun t k => by rw [hG0]; exact castTop (ef_rm5e m a0 a1) k
  have K1 : ∀ t, Steps p.tables e below (s₁.setTop (mkF m 1 #[.val (.ref a0), .val (.ref a1), .val (.int (0 : Int32)), .val (.int (0 : Int32)), .val .null, .unset] [(.ref a0)])) t → Steps p.tables e below G0 t := by
    intro t kt
    refine K0 t ?_
    refine XS.aloadN X0.here hx rfl (hb hby d5_0) rfl rfl ?_
    show Steps p.tables e below (s₁.setTop (mkF m 1 #[.val (.ref a0), .val (.ref a1), .val (.int (0 : Int32)), .val (.int (0 : Int32)), .val .null, .unset] [(.ref a0)])) _
    exact kt
  obtain ⟨T2, X2, e2, st2⟩ := initO X0 hx hZ hown (hw _ (List.mem_of_getElem? (i := 40) rfl)) (hw _ (List.mem_of_getElem? (i := 41) rfl)) (hw _ (List.mem_of_getElem? (i := 42) rfl)) e0 (g := (mkF m 1 #[.val (.ref a0), .val (.ref a1), .val (.int (0 : Int32)), .val (.int (0 : Int32)), .val .null, .unset] [(.ref a0)])) rfl (by rw [hml]; rfl) rfl (hb hby d5_1) (by decide) (W := 0) (by show 2 * 0 + _ ≤ _; exact Nat.le_of_eq rfl) (by decide)
  have K2 : ∀ t, Steps p.tables e below (T2.setTop (mkF m 4 #[.val (.ref a0), .val (.ref a1), .val (.int (0 : Int32)), .val (.int (0 : Int32)), .val .null, .unset] [])) t → Steps p.tables e below G0 t := fun t kt => K1 t (st2 _ kt)
  have K3 : ∀ t, Steps p.tables e below (T2.setTop (mkF m 9 #[.val (.ref a0), .val (.ref a1), .val (.int (0 : Int32)), .val (.int (0 : Int32)), .val .null, .unset] [(.ref a0)])) t → Steps p.tables e below G0 t := by
    intro t kt
    refine K2 t ?_
    refine XS.iloadN X2.here hx rfl (hb hby d5_4) rfl ?_
    show Steps p.tables e below (T2.setTop (mkF m 5 #[.val (.ref a0), .val (.ref a1), .val (.int (0 : Int32)), .val (.int (0 : Int32)), .val .null, .unset] [(.int (0 : Int32))])) _
    refine XS.ifNo X2.here hx rfl (hb hby d5_5) rfl ((if0 _ _).trans (teq rfl).2) ?_
    show Steps p.tables e below (T2.setTop (mkF m 8 #[.val (.ref a0), .val (.ref a1), .val (.int (0 : Int32)), .val (.int (0 : Int32)), .val .null, .unset] [])) _
    refine XS.aloadN X2.here hx rfl (hb hby d5_8) rfl rfl ?_
    show Steps p.tables e below (T2.setTop (mkF m 9 #[.val (.ref a0), .val (.ref a1), .val (.int (0 : Int32)), .val (.int (0 : Int32)), .val .null, .unset] [(.ref a0)])) _
    exact kt
  obtain ⟨a4, T4, h4, kk4, bb4, kc4, X4, e4, E4, hS4, hk4, hZ4, hown4, LE4, LC4, LV4, LA4, la4, lb4, CR4, -, -, st4⟩ := ldcCH X2 hx hZ hown (hw _ (List.mem_of_getElem? (i := 54) rfl)) (own_wS hw) e2 hS0 hk0 hEL (by decide +kernel) CH0.1 (vs := []) (z := (0 : Int32)) ⟨by decide, by decide⟩ (by decide) (by decide) (g := (mkF m 9 #[.val (.ref a0), .val (.ref a1), .val (.int (0 : Int32)), .val (.int (0 : Int32)), .val .null, .unset] [(.ref a0)])) rfl (hb hby d5_9) (n := 0) (by decide) (by decide) (by decide) (by decide)
  have K4 : ∀ t, Steps p.tables e below (T4.setTop (mkF m 11 #[.val (.ref a0), .val (.ref a1), .val (.int (0 : Int32)), .val (.int (0 : Int32)), .val .null, .unset] [(.ref a4), (.ref a0)])) t → Steps p.tables e below G0 t := fun t kt => K3 t (st4 _ kt)
  have Z4 : n0 ≤ h4.size := Nat.le_trans Z0 E4.1
  have CH4 := CH0.trans CR4
  have f5 := (E0.ext E4)
  have f6 := (F_value.ext E4)
  have sf4 : Safe Z consts_1 T4.vm h4 a0 := own_safe (hZ4.alike) f5 f6
  have ne_a0_a4 : a0 ≠ a4 := Fld.ne f6 LV4 (by simp)
  have neb4 : a0 ≠ bb4 := Exa.neArv f5 LA4 (hw _ (List.mem_of_getElem? (i := 3) rfl))
  have ne_a0_bb4 := neb4
  obtain ⟨T7, X7, e7, st7⟩ := getF X4 hx hZ4 hown4 (host := "") (Or.inl (hw _ (List.mem_of_getElem? (i := 27) rfl))) Via.refl e4 LV4 (g := (mkF m 11 #[.val (.ref a0), .val (.ref a1), .val (.int (0 : Int32)), .val (.int (0 : Int32)), .val .null, .unset] [(.ref a4), (.ref a0)])) rfl rfl (hb hby d5_11)
  have K7 : ∀ t, Steps p.tables e below (T7.setTop (mkF m 14 #[.val (.ref a0), .val (.ref a1), .val (.int (0 : Int32)), .val (.int (0 : Int32)), .val .null, .unset] [(.ref bb4), (.ref a0)])) t → Steps p.tables e below G0 t := fun t kt => K4 t (st7 _ kt)
  obtain ⟨T8, h8, X8, e8, W8, st8⟩ := putF X7 hx hZ4 hown4 (host := "") (Or.inl (hw _ (List.mem_of_getElem? (i := 27) rfl))) Via.refl e7 f6 f5 (Or.inr ⟨(hw _ (List.mem_of_getElem? (i := 5) rfl)), rfl, hnm⟩) (hw _ (List.mem_of_getElem? (i := 3) rfl)) (ty := (.array .byte)) (by decide) rfl rfl (g := (mkF m 14 #[.val (.ref a0), .val (.ref a1), .val (.int (0 : Int32)), .val (.int (0 : Int32)), .val .null, .unset] [(.ref bb4), (.ref a0)])) rfl rfl (hb hby d5_14)
  have K8 : ∀ t, Steps p.tables e below (T8.setTop (mkF m 17 #[.val (.ref a0), .val (.ref a1), .val (.int (0 : Int32)), .val (.int (0 : Int32)), .val .null, .unset] [])) t → Steps p.tables e below G0 t := fun t kt => K7 t (st8 _ kt)
  have Fw8 := (f6).same W8
  have N8 := Fr.snoc X8 N0 gn
  have Z8 : n0 ≤ h8.size := Nat.le_trans Z4 (Keep.of_wr W8).1
  have CW8 := CH4.trans (CHr.wr W8 sf4 CH4.1)
  have sg8 := CHr.safe (CHr.wr W8 sf4 CH4.1) (f5).lt sf4
  have f9 := (f5.wr W8)
  have K10 : ∀ t, Steps p.tables e below (T8.setTop (mkF m 18 #[.val (.ref a0), .val (.ref a1), .val (.int (0 : Int32)), .val (.int (0 : Int32)), .val .null, .unset] [(.ref a0)])) t → Steps p.tables e below G0 t := by
    intro t kt
    refine K8 t ?_
    refine XS.aloadN X8.here hx rfl (hb hby d5_17) rfl rfl ?_
    show Steps p.tables e below (T8.setTop (mkF m 18 #[.val (.ref a0), .val (.ref a1), .val (.int (0 : Int32)), .val (.int (0 : Int32)), .val .null, .unset] [(.ref a0)])) _
    exact kt
  have f11 := (Nat.le_trans hk4 (Keep.of_wr W8).1)
  obtain ⟨a12, T12, h12, kk12, bb12, kc12, X12, e12, E12, hS12, hk12, hZ12, hown12, LE12, LC12, LV12, LA12, la12, lb12, CR12, -, -, st12⟩ := ldcCH X8 hx hZ4 hown4 (hw _ (List.mem_of_getElem? (i := 54) rfl)) (own_wS hw) e8 hS4 f11 hEL (by decide +kernel) CW8.1 (vs := []) (z := (0 : Int32)) ⟨by decide, by decide⟩ (by decide) (by decide) (g := (mkF m 18 #[.val (.ref a0), .val (.ref a1), .val (.int (0 : Int32)), .val (.int (0 : Int32)), .val .null, .unset] [(.ref a0)])) rfl (hb hby d5_18) (n := 0) (by decide) (by decide) (by decide) (by decide)
  have K12 : ∀ t, Steps p.tables e below (T12.setTop (mkF m 20 #[.val (.ref a0), .val (.ref a1), .val (.int (0 : Int32)), .val (.int (0 : Int32)), .val .null, .unset] [(.ref a12), (.ref a0)])) t → Steps p.tables e below G0 t := fun t kt => K10 t (st12 _ kt)
  have Z12 : n0 ≤ h12.size := Nat.le_trans Z8 E12.1
  have CH12 := CW8.trans CR12
  have sh12 := CHr.safe CR12 (f9).lt sg8
  obtain ⟨T13, X13, e13, st13⟩ := getF X12 hx hZ12 hown12 (host := "") (Or.inl (hw _ (List.mem_of_getElem? (i := 26) rfl))) Via.refl e12 LC12 (g := (mkF m 20 #[.val (.ref a0), .val (.ref a1), .val (.int (0 : Int32)), .val (.int (0 : Int32)), .val .null, .unset] [(.ref a12), (.ref a0)])) rfl rfl (hb hby d5_20)
  have K13 : ∀ t, Steps p.tables e below (T13.setTop (mkF m 23 #[.val (.ref a0), .val (.ref a1), .val (.int (0 : Int32)), .val (.int (0 : Int32)), .val .null, .unset] [(.int (0 : Int32)), (.ref a0)])) t → Steps p.tables e below G0 t := fun t kt => K12 t (st13 _ kt)
  have f14 := (((F_coder.ext E4).other W8 (Or.inr (slot_ne (Or.inr (hw _ (List.mem_of_getElem? (i := 6) rfl))) (Or.inr (hw _ (List.mem_of_getElem? (i := 5) rfl))) (by decide) (t := .byte) (t' := (.array .byte)) (by decide) (by decide)))).ext E12)
  have f15 := (f9.ext E12)
  obtain ⟨T16, h16, X16, e16, W16, st16⟩ := putFN X13 hx hZ12 hown12 (hw _ (List.mem_of_getElem? (i := 26) rfl)) Via.refl e13 f14 f15 (Or.inr ⟨(hw _ (List.mem_of_getElem? (i := 6) rfl)), rfl, hnm⟩) (hw _ (List.mem_of_getElem? (i := 3) rfl)) (ty := .byte) (v' := (.int (nar .byte (0 : Int32)))) (by decide) rfl (fits_nar_byte _) (g := (mkF m 23 #[.val (.ref a0), .val (.ref a1), .val (.int (0 : Int32)), .val (.int (0 : Int32)), .val .null, .unset] [(.int (0 : Int32)), (.ref a0)])) rfl rfl (hb hby d5_23)
  have K16 : ∀ t, Steps p.tables e below (T16.setTop (mkF m 26 #[.val (.ref a0), .val (.ref a1), .val (.int (0 : Int32)), .val (.int (0 : Int32)), .val .null, .unset] [])) t → Steps p.tables e below G0 t := fun t kt => K13 t (st16 _ kt)
  have Fw16 := (f14).same W16
  have N16 := Fr.snoc X16 N8 gn
  have Z16 : n0 ≤ h16.size := Nat.le_trans Z12 (Keep.of_wr W16).1
  have CW16 := CH12.trans (CHr.wr W16 sh12 CH12.1)
  have KQ17_0 := Keep.refl h0 [a0]
  have KQ17_1 := KQ17_0.ext E4
  have KQ17_2 := KQ17_1.wr W8 (Or.inl (List.mem_of_getElem? (i := 0) rfl))
  have KQ17_3 := KQ17_2.ext E12
  have KQ17_4 := KQ17_3.wr W16 (Or.inl (List.mem_of_getElem? (i := 0) rfl))
  have f18 := (f15.wr W16)
  have f19 := ((Fw8.ext E12).other W16 (Or.inr (slot_ne (Or.inr (hw _ (List.mem_of_getElem? (i := 5) rfl))) (Or.inr (hw _ (List.mem_of_getElem? (i := 6) rfl))) (by decide) (t := (.array .byte)) (t' := .byte) (by decide) (by decide))))
  have f20 := (((LA4.other W8 (Ne.symm ne_a0_bb4)).ext E12).other W16 (Ne.symm ne_a0_bb4))
  have f21 := (Nat.le_trans hk12 (Keep.of_wr W16).1)
  obtain ⟨fs, hr, hrun, hended, hREW⟩ := X16.leaveW hS12 (by rw [e16]; exact f21) (v := none) (fun _ => rfl)
  have CHE := CW16.trans (CHv.at X16 hZ12 hEL CW16.1)
  refine ⟨_, _, ?_, hrun, hended, _, _, rfl, ?_, ?_, hREW.1, hREW.2.1, hREW.2.2.1, hREW.2.2.2.mono (by decide) (by decide)⟩
  · rw [← hG0]
    refine K16 _ ?_
    exact X16.returnOut hx Bd.returns (hb hby d5_26) hr
  · show Q5e Z a0 a1 h0 n0 _ T16.heap _
    rw [e16]
    exact ⟨rfl, N16, KQ17_4, ⟨f18, Fw16, ⟨_, _, f19, f20⟩, by decide, by decide⟩⟩
  · rw [hh]
    show CHr Z consts_1 s.vm h0 T16.vm T16.heap
    rw [e16]
    exact CHE
theorem d4_0 : decode jdk_42_method_3_code 0 = .ok (.aload_n 0, 1) := by decide +kernel
theorem d4_1 : decode jdk_42_method_3_code 1 = .ok (.aload_n 1, 1) := by decide +kernel
theorem d4_2 : decode jdk_42_method_3_code 2 = .ok (.iconst 0, 1) := by decide +kernel
theorem d4_3 : decode jdk_42_method_3_code 3 = .ok (.aload_n 1, 1) := by decide +kernel
theorem d4_4 : decode jdk_42_method_3_code 4 = .ok (.arraylength, 1) := by decide +kernel
theorem d4_5 : decode jdk_42_method_3_code 5 = .ok (.aconst_null, 1) := by decide +kernel
theorem d4_6 : decode jdk_42_method_3_code 6 = .ok (.invokespecial 27, 3) := by decide +kernel
theorem d4_9 : decode jdk_42_method_3_code 9 = .ok (.return_, 1) := by decide +kernel
theorem pd_P_CIILjava_lang_Void_QV : parseMethodDescriptor "([CIILjava/lang/Void;)V" = some ⟨[(.array .char), .int, .int, (.object "java/lang/Void")], none⟩ := by decide +kernel
theorem ef_rm4e (m : MethodId) (a0 : Addr) (a1 : Addr) : entryFrame m #[(.ref a0), (.ref a1)] 2 = (mkF m 0 #[.val (.ref a0), .val (.ref a1)] []) := by first | (simp [entryFrame, mkF, argsToLocals, Value.category]; done) | rfl
def Q4e (Z : State) (a0 : Addr) (a1 : Addr) (ka : ClassId) (d : Value) (h0 : Heap) (n0 : Nat) (v : Option Value) (h : Heap) (L : List Loc) : Prop := v = none ∧ Fr n0 L ∧ Keep h0 h [a0] ∧ own_Str Z h a0 []
set_option maxRecDepth 65536 in
set_option maxHeartbeats 40000000 in
theorem rm4e (l : Launch) (Z : State) (aa : Array Value) (hw : ∀ d ∈ tables_1, d.before aa Z = true) (hEL : EW Z aa consts_1) (ws : List Jvm.Cond) (a0 : Addr) (a1 : Addr) (ka : ClassId) (d : Value) (h0 : Heap) (n0 : Nat) (Z0 : n0 ≤ h0.size) (gn : n0 ≤ a0) (E0 : Exa Z h0 a0 "java/lang/String") (F_value : Fld Z h0 a0 "java/lang/String" "value" "[B" .null) (F_coder : Fld Z h0 a0 "java/lang/String" "coder" "B" (.int (0 : Int32))) (V0 : Arv Z h0 a1 ka .char (0 : Int32) [] d) :
    MetFree l (⟨"java/lang/String", "<init>", "([C)V"⟩ : MethodName) (head1 (Jvm.Cond.code (⟨"java/lang/String", "<init>", "([C)V"⟩ : MethodName) jdk_42_method_3_code 2 none :: ws) ({ frames := 2, cells := 4, slots := 8, locals := 29 } : Room)) (fun a U => a = #[(.ref a0), (.ref a1)] ∧ Z.Warmed39 U.vm ∧ U.heap = h0 ∧ CHv Z consts_1 U.vm h0) (fun _ _ _ _ _ => True) (fun _ U o U' => ∃ v L, o = .returned v ∧ Q4e Z a0 a1 ka d h0 n0 v U'.heap L ∧ CHr Z consts_1 U.vm U.heap U'.vm U'.heap ∧ ReturnedEndW U o U' L ({ frames := 2, cells := 4, slots := 8, locals := 29 } : Room).cells ({ frames := 2, cells := 4, slots := 8, locals := 29 } : Room).slots) := by
  refine MetFree.of_bodySF (plainFor_of_name pn_java_lang_String) hisR ?_
  intro p e s m args below meth c s₁ Bd hml0 hP hK
  obtain ⟨rfl, hZ, hh, hCH⟩ := hP
  have hx := Bd.exec
  have hby := Bd.bytes
  have hml : c.maxLocals = 2 := hml0
  have hown : s.vm.findClass "java/lang/String" = some m.cls := findClass_of_methodNamed Bd.named
  have hnm := (name_of_methodNamed Bd.named Bd.method).1
  have X0 : Stand p l e ({ frames := 2, cells := 4, slots := 8, locals := 29 } : Room) (s.setVm s.vm) m #[(.ref a0), (.ref a1)] below meth c s₁ [] 0 0 := (Stand.of_body Bd : Stand p l e ({ frames := 2, cells := 4, slots := 8, locals := 29 } : Room) s m #[(.ref a0), (.ref a1)] below meth c s₁ [] 0 0)
  have hS0 : s.Since s.vm h0.size := (State.WarmedH.refl s).since _
  have hk0 : h0.size ≤ h0.size := Nat.le_refl _
  have CH0 : CHr Z consts_1 s.vm h0 s.vm h0 := CHr.refl hCH
  have e0 : s₁.heap = h0 := by rw [← hh, Bd.state]; rfl
  have N0 := Fr.nil n0
  obtain ⟨G0, hG0⟩ : ∃ G, G = s₁.setTop (entryFrame m #[(.ref a0), (.ref a1)] 2) := ⟨_, rfl⟩
  have K0 : ∀ t, Steps p.tables e below (s₁.setTop (mkF m 0 #[.val (.ref a0), .val (.ref a1)] [])) t → Steps p.tables e below G0 t := fun t k => by rw [hG0]; exact castTop (ef_rm4e m a0 a1) k
  have K1 : ∀ t, Steps p.tables e below (s₁.setTop (mkF m 4 #[.val (.ref a0), .val (.ref a1)] [(.ref a1), (.int (0 : Int32)), (.ref a1), (.ref a0)])) t → Steps p.tables e below G0 t := by
    intro t kt
    refine K0 t ?_
    refine XS.aloadN X0.here hx rfl (hb hby d4_0) rfl rfl ?_
    show Steps p.tables e below (s₁.setTop (mkF m 1 #[.val (.ref a0), .val (.ref a1)] [(.ref a0)])) _
    refine XS.aloadN X0.here hx rfl (hb hby d4_1) rfl rfl ?_
    show Steps p.tables e below (s₁.setTop (mkF m 2 #[.val (.ref a0), .val (.ref a1)] [(.ref a1), (.ref a0)])) _
    refine XS.iconst X0.here hx rfl (hb hby d4_2) ?_
    show Steps p.tables e below (s₁.setTop (mkF m 3 #[.val (.ref a0), .val (.ref a1)] [(.int (0 : Int32)), (.ref a1), (.ref a0)])) _
    refine XS.aloadN X0.here hx rfl (hb hby d4_3) rfl rfl ?_
    show Steps p.tables e below (s₁.setTop (mkF m 4 #[.val (.ref a0), .val (.ref a1)] [(.ref a1), (.int (0 : Int32)), (.ref a1), (.ref a0)])) _
    exact kt
  obtain ⟨cl2, Ar2, qq2, S2, M2, H2, GG2⟩ := id V0
  have K3 : ∀ t, Steps p.tables e below (s₁.setTop (mkF m 6 #[.val (.ref a0), .val (.ref a1)] [.null, (.int (0 : Int32)), (.int (0 : Int32)), (.ref a1), (.ref a0)])) t → Steps p.tables e below G0 t := by
    intro t kt
    refine K1 t ?_
    refine X0.arraylength hx (by rw [e0]; exact (Ar2).1) (State.isArrayOf_alike hZ.alike (Ar2).2.1) (g := (mkF m 4 #[.val (.ref a0), .val (.ref a1)] [(.ref a1), (.int (0 : Int32)), (.ref a1), (.ref a0)])) rfl rfl (hb hby d4_4) _ ?_
    rw [len_of S2 M2]
    show Steps p.tables e below (s₁.setTop (mkF m 5 #[.val (.ref a0), .val (.ref a1)] [(.int (0 : Int32)), (.int (0 : Int32)), (.ref a1), (.ref a0)])) _
    refine XS.aconstNull X0.here hx rfl (hb hby d4_5) ?_
    show Steps p.tables e below (s₁.setTop (mkF m 6 #[.val (.ref a0), .val (.ref a1)] [.null, (.int (0 : Int32)), (.int (0 : Int32)), (.ref a1), (.ref a0)])) _
    exact kt
  obtain ⟨v4, _, ⟨T4, L4, k4, n4⟩, -, Xq4, S24, g24, ⟨Lc4, hQ4, l4, y4, z4, CR4⟩, st4⟩ := X0.specialBackS hx (y := (⟨"java/lang/String", "<init>", "([CIILjava/lang/Void;)V"⟩ : MethodName)) rfl hown (mvT hZ (hw _ (List.mem_of_getElem? (i := 37) rfl))) (mvT hZ (hw _ (List.mem_of_getElem? (i := 38) rfl))) (mvT hZ (hw _ (List.mem_of_getElem? (i := 39) rfl))) (by decide) (backOfSH (W := 0) (rm5e l Z aa hw hEL [] a0 a1  h0 n0 Z0 gn E0 F_value F_coder) hZ (hw _ (List.mem_of_getElem? (i := 39) rfl)) (hw _ (List.mem_of_getElem? (i := 2) rfl)) (by decide) (by decide) hEL CH0.1) (g := (mkF m 6 #[.val (.ref a0), .val (.ref a1)] [.null, (.int (0 : Int32)), (.int (0 : Int32)), (.ref a1), (.ref a0)])) rfl (by rw [hml]; rfl) (Steps.refl _) (a := a0) (argsL := [(.ref a1), (.int (0 : Int32)), (.int (0 : Int32)), .null]) (rest := []) (lenOf pd_P_CIILjava_lang_Void_QV rfl) rfl (by show 2 * 0 + _ ≤ _; exact Nat.le_of_eq rfl) (hb hby d4_6) (fun _ _ => ⟨rfl, e0, (by decide : 0 + 4 ≤ _), (by decide : 0 + 8 ≤ _)⟩)
  dsimp only [Pt.U, Pt.locs, Pt.cells, Pt.slots] at Xq4 S24 g24 l4 y4 z4 st4 hQ4 CR4
  subst l4 y4 z4
  obtain ⟨X4, hS4, hZ4, hown4⟩ := rebS hS0 (show _ ≤ s₁.heap.size by rw [e0]; exact hk0) Xq4 S24 g24 hZ hown
  have hk4 : T4.heap.size ≤ T4.heap.size := Nat.le_refl _
  have CH4 := CH0.trans CR4
  obtain ⟨rfl, N4q, KV4, SS4⟩ := hQ4
  have N4 := Fr.app N0 N4q
  have K4 : ∀ t, Steps p.tables e below (T4.setTop (mkF m 9 #[.val (.ref a0), .val (.ref a1)] [])) t → Steps p.tables e below G0 t := fun t kt => K3 t (st4.trans kt)
  have Z4 : n0 ≤ T4.heap.size := Nat.le_trans Z0 KV4.1
  obtain ⟨fs, hr, hrun, hended, hREW⟩ := X4.leaveW hS4 (by rw [(rfl : T4.heap = _)]; exact hk4) (v := none) (fun _ => rfl)
  have CHE := CH4.trans (CHv.at X4 hZ4 hEL CH4.1)
  refine ⟨_, _, ?_, hrun, hended, _, _, rfl, ?_, ?_, hREW.1, hREW.2.1, hREW.2.2.1, hREW.2.2.2.mono (by decide) (by decide)⟩
  · rw [← hG0]
    refine K4 _ ?_
    exact X4.returnOut hx Bd.returns (hb hby d4_9) hr
  · show Q4e Z a0 a1 ka d h0 n0 _ T4.heap _
    exact ⟨rfl, N4, KV4, SS4⟩
  · rw [hh]
    show CHr Z consts_1 s.vm h0 T4.vm T4.heap
    exact CHE
theorem pn_com_example_affordance_affordance_MediaTypesContentTypePinLaw : plainName "com/example/affordance/affordance/MediaTypesContentTypePinLaw" = true := by first | (simp [plainName, overriddenIn]; done) | decide +kernel
theorem pd_P_CQV : parseMethodDescriptor "([C)V" = some ⟨[(.array .char)], none⟩ := by decide +kernel
theorem pd_PLjava_lang_String_QLjava_lang_String_ : parseMethodDescriptor "(Ljava/lang/String;)Ljava/lang/String;" = some ⟨[(.object "java/lang/String")], some (.object "java/lang/String")⟩ := by decide +kernel
theorem os_0_11 {z0 z1 z2 z3 z4 z5 z6 z7 z8 z9 z10 : Value} {s11 s12 s13 : Slot} {v : Addr} (h : One s11) : storeLocals #[.val z0, .val z1, .val z2, .val z3, .val z4, .val z5, .val z6, .val z7, .val z8, .val z9, .val z10, s11, s12, s13] 11 (.ref v) = some #[.val z0, .val z1, .val z2, .val z3, .val z4, .val z5, .val z6, .val z7, .val z8, .val z9, .val z10, .val (.ref v), s12, s13] := by
  rcases h with rfl | ⟨w, rfl, hw⟩
  · rfl
  · cases w <;> first | rfl | (simp [Value.category] at hw)
theorem ef_rm0 (m : MethodId) (p0 : Int32) (p1 : Int32) (p2 : Int32) (p3 : Int32) (p4 : Int32) : entryFrame m #[(.int p0), (.int p1), (.int p2), (.int p3), (.int p4)] maxLocals = (mkF m 0 #[.val (.int p0), .val (.int p1), .val (.int p2), .val (.int p3), .val (.int p4), .unset, .unset, .unset, .unset, .unset, .unset, .unset, .unset, .unset] []) := by first | (simp [entryFrame, mkF, argsToLocals, Value.category, maxLocals]; done) | rfl
def Q0 (Z : State) (p0 : Int32) (p1 : Int32) (p2 : Int32) (p3 : Int32) (p4 : Int32) (G1 : Int32) (h0 : Heap) (n0 : Nat) (v : Option Value) (h : Heap) (L : List Loc) : Prop := v = some (.int 1) ∧ Fr n0 L
set_option maxRecDepth 65536 in
set_option maxHeartbeats 40000000 in
theorem rm0 (l : Launch) (Z : State) (aa : Array Value) (hw : ∀ d ∈ tables_1, d.before aa Z = true) (hEL : EW Z aa consts_1) (ws : List Jvm.Cond) (p0 : Int32) (p1 : Int32) (p2 : Int32) (p3 : Int32) (p4 : Int32) (G1 : Int32) (h0 : Heap) (n0 : Nat) (Z0 : n0 ≤ h0.size) (O2 : Sta Z Z.heap "java/lang/String" "COMPACT_STRINGS" "Z" (.int G1)) (P5 : ¬ (G1 = (0 : Int32))) (HO : Old Z n0 h0) :
    MetFree l x (head1 (Jvm.Cond.code x code maxLocals ret :: ws) room_1) (fun a U => a = #[(.int p0), (.int p1), (.int p2), (.int p3), (.int p4)] ∧ Z.Warmed39 U.vm ∧ U.heap = h0 ∧ CHv Z consts_1 U.vm h0) (fun _ _ _ _ _ => True) (fun _ U o U' => ∃ v L, o = .returned v ∧ Q0 Z p0 p1 p2 p3 p4 G1 h0 n0 v U'.heap L ∧ CHr Z consts_1 U.vm U.heap U'.vm U'.heap ∧ ReturnedEndW U o U' L room_1.cells room_1.slots) := by
  refine MetFree.of_bodySF (plainFor_of_name pn_com_example_affordance_affordance_MediaTypesContentTypePinLaw) hisR ?_
  intro p e s m args below meth c s₁ Bd hml0 hP hK
  obtain ⟨rfl, hZ, hh, hCH⟩ := hP
  have hx := Bd.exec
  have hby := Bd.bytes
  have hml : c.maxLocals = 14 := hml0
  have hown : s.vm.findClass "com/example/affordance/affordance/MediaTypesContentTypePinLaw" = some m.cls := findClass_of_methodNamed Bd.named
  have hnm := (name_of_methodNamed Bd.named Bd.method).1
  have X0 : Stand p l e room_1 (s.setVm s.vm) m #[(.int p0), (.int p1), (.int p2), (.int p3), (.int p4)] below meth c s₁ [] 0 0 := (Stand.of_body Bd : Stand p l e room_1 s m #[(.int p0), (.int p1), (.int p2), (.int p3), (.int p4)] below meth c s₁ [] 0 0)
  have hS0 : s.Since s.vm h0.size := (State.WarmedH.refl s).since _
  have hk0 : h0.size ≤ h0.size := Nat.le_refl _
  have CH0 : CHr Z consts_1 s.vm h0 s.vm h0 := CHr.refl hCH
  have e0 : s₁.heap = h0 := by rw [← hh, Bd.state]; rfl
  have N0 := Fr.nil n0
  obtain ⟨G0, hG0⟩ : ∃ G, G = s₁.setTop (entryFrame m #[(.int p0), (.int p1), (.int p2), (.int p3), (.int p4)] maxLocals) := ⟨_, rfl⟩
  have K0 : ∀ t, Steps p.tables e below (s₁.setTop (mkF m 0 #[.val (.int p0), .val (.int p1), .val (.int p2), .val (.int p3), .val (.int p4), .unset, .unset, .unset, .unset, .unset, .unset, .unset, .unset, .unset] [])) t → Steps p.tables e below G0 t := fun t k => by rw [hG0]; exact castTop (ef_rm0 m p0 p1 p2 p3 p4) k
  have K1 : ∀ t, Steps p.tables e below (s₁.setTop (mkF m 8 #[.val (.int p0), .val (.int p1), .val (.int p2), .val (.int p3), .val (.int p4), .val (.int ((p0 &&& (2147483647 : Int32)) % (5 : Int32))), .unset, .unset, .unset, .unset, .unset, .unset, .unset, .unset] [])) t → Steps p.tables e below G0 t := by
    intro t kt
    refine K0 t ?_
    refine XS.iloadN X0.here hx rfl (hb hby at_0) rfl ?_
    show Steps p.tables e below (s₁.setTop (mkF m 1 #[.val (.int p0), .val (.int p1), .val (.int p2), .val (.int p3), .val (.int p4), .unset, .unset, .unset, .unset, .unset, .unset, .unset, .unset, .unset] [(.int p0)])) _
    refine X0.ldcInt hx hown (mvT hZ (hw _ (List.mem_of_getElem? (i := 0) rfl))) (g := (mkF m 1 #[.val (.int p0), .val (.int p1), .val (.int p2), .val (.int p3), .val (.int p4), .unset, .unset, .unset, .unset, .unset, .unset, .unset, .unset, .unset] [(.int p0)])) rfl (hb hby at_1) _ ?_
    show Steps p.tables e below (s₁.setTop (mkF m 3 #[.val (.int p0), .val (.int p1), .val (.int p2), .val (.int p3), .val (.int p4), .unset, .unset, .unset, .unset, .unset, .unset, .unset, .unset, .unset] [(.int (2147483647 : Int32)), (.int p0)])) _
    refine XS.iand X0.here hx rfl (hb hby at_3) rfl ?_
    show Steps p.tables e below (s₁.setTop (mkF m 4 #[.val (.int p0), .val (.int p1), .val (.int p2), .val (.int p3), .val (.int p4), .unset, .unset, .unset, .unset, .unset, .unset, .unset, .unset, .unset] [(.int (p0 &&& (2147483647 : Int32)))])) _
    refine XS.iconst X0.here hx rfl (hb hby at_4) ?_
    show Steps p.tables e below (s₁.setTop (mkF m 5 #[.val (.int p0), .val (.int p1), .val (.int p2), .val (.int p3), .val (.int p4), .unset, .unset, .unset, .unset, .unset, .unset, .unset, .unset, .unset] [(.int (5 : Int32)), (.int (p0 &&& (2147483647 : Int32)))])) _
    refine iremM X0 hx rfl (hb hby at_5) rfl (by decide) ?_
    show Steps p.tables e below (s₁.setTop (mkF m 6 #[.val (.int p0), .val (.int p1), .val (.int p2), .val (.int p3), .val (.int p4), .unset, .unset, .unset, .unset, .unset, .unset, .unset, .unset, .unset] [(.int ((p0 &&& (2147483647 : Int32)) % (5 : Int32)))])) _
    refine XS.istore X0.here hx rfl (hb hby at_6) rfl (l' := #[.val (.int p0), .val (.int p1), .val (.int p2), .val (.int p3), .val (.int p4), .val (.int ((p0 &&& (2147483647 : Int32)) % (5 : Int32))), .unset, .unset, .unset, .unset, .unset, .unset, .unset, .unset]) rfl ?_
    show Steps p.tables e below (s₁.setTop (mkF m 8 #[.val (.int p0), .val (.int p1), .val (.int p2), .val (.int p3), .val (.int p4), .val (.int ((p0 &&& (2147483647 : Int32)) % (5 : Int32))), .unset, .unset, .unset, .unset, .unset, .unset, .unset, .unset] [])) _
    exact kt
  obtain ⟨k, h_k⟩ : ∃ z, z = ((p0 &&& (2147483647 : Int32)) % (5 : Int32)) := ⟨_, rfl⟩
  rw [← h_k] at K1
  have hk5 := own_k h_k
  have b_cx := own_chars p2
  have n_cx := own_nc (p2 &&& (255 : Int32))
  have K2 : ∀ t, Steps p.tables e below (s₁.setTop (mkF m 16 #[.val (.int p0), .val (.int p1), .val (.int p2), .val (.int p3), .val (.int p4), .val (.int k), .val (.int ((p2 &&& (255 : Int32)).toUInt32.toUInt16.toUInt32.toInt32)), .unset, .unset, .unset, .unset, .unset, .unset, .unset] [])) t → Steps p.tables e below G0 t := by
    intro t kt
    refine K1 t ?_
    refine XS.iloadN X0.here hx rfl (hb hby at_8) rfl ?_
    show Steps p.tables e below (s₁.setTop (mkF m 9 #[.val (.int p0), .val (.int p1), .val (.int p2), .val (.int p3), .val (.int p4), .val (.int k), .unset, .unset, .unset, .unset, .unset, .unset, .unset, .unset] [(.int p2)])) _
    refine XS.sipush X0.here hx rfl (hb hby at_9) ?_
    show Steps p.tables e below (s₁.setTop (mkF m 12 #[.val (.int p0), .val (.int p1), .val (.int p2), .val (.int p3), .val (.int p4), .val (.int k), .unset, .unset, .unset, .unset, .unset, .unset, .unset, .unset] [(.int (255 : Int32)), (.int p2)])) _
    refine XS.iand X0.here hx rfl (hb hby at_12) rfl ?_
    show Steps p.tables e below (s₁.setTop (mkF m 13 #[.val (.int p0), .val (.int p1), .val (.int p2), .val (.int p3), .val (.int p4), .val (.int k), .unset, .unset, .unset, .unset, .unset, .unset, .unset, .unset] [(.int (p2 &&& (255 : Int32)))])) _
    refine XS.i2c X0.here hx rfl (hb hby at_13) rfl ?_
    show Steps p.tables e below (s₁.setTop (mkF m 14 #[.val (.int p0), .val (.int p1), .val (.int p2), .val (.int p3), .val (.int p4), .val (.int k), .unset, .unset, .unset, .unset, .unset, .unset, .unset, .unset] [(.int ((p2 &&& (255 : Int32)).toUInt32.toUInt16.toUInt32.toInt32))])) _
    refine XS.istore X0.here hx rfl (hb hby at_14) rfl (l' := #[.val (.int p0), .val (.int p1), .val (.int p2), .val (.int p3), .val (.int p4), .val (.int k), .val (.int ((p2 &&& (255 : Int32)).toUInt32.toUInt16.toUInt32.toInt32)), .unset, .unset, .unset, .unset, .unset, .unset, .unset]) rfl ?_
    show Steps p.tables e below (s₁.setTop (mkF m 16 #[.val (.int p0), .val (.int p1), .val (.int p2), .val (.int p3), .val (.int p4), .val (.int k), .val (.int ((p2 &&& (255 : Int32)).toUInt32.toUInt16.toUInt32.toInt32)), .unset, .unset, .unset, .unset, .unset, .unset, .unset] [])) _
    exact kt
  obtain ⟨cx, h_cx⟩ : ∃ z, z = ((p2 &&& (255 : Int32)).toUInt32.toUInt16.toUInt32.toInt32) := ⟨_, rfl⟩
  rw [← h_cx] at K2
  rw [← h_cx] at b_cx n_cx
  have b_cy := own_chars p3
  have n_cy := own_nc (p3 &&& (255 : Int32))
  have K3 : ∀ t, Steps p.tables e below (s₁.setTop (mkF m 24 #[.val (.int p0), .val (.int p1), .val (.int p2), .val (.int p3), .val (.int p4), .val (.int k), .val (.int cx), .val (.int ((p3 &&& (255 : Int32)).toUInt32.toUInt16.toUInt32.toInt32)), .unset, .unset, .unset, .unset, .unset, .unset] [])) t → Steps p.tables e below G0 t := by
    intro t kt
    refine K2 t ?_
    refine XS.iloadN X0.here hx rfl (hb hby at_16) rfl ?_
    show Steps p.tables e below (s₁.setTop (mkF m 17 #[.val (.int p0), .val (.int p1), .val (.int p2), .val (.int p3), .val (.int p4), .val (.int k), .val (.int cx), .unset, .unset, .unset, .unset, .unset, .unset, .unset] [(.int p3)])) _
    refine XS.sipush X0.here hx rfl (hb hby at_17) ?_
    show Steps p.tables e below (s₁.setTop (mkF m 20 #[.val (.int p0), .val (.int p1), .val (.int p2), .val (.int p3), .val (.int p4), .val (.int k), .val (.int cx), .unset, .unset, .unset, .unset, .unset, .unset, .unset] [(.int (255 : Int32)), (.int p3)])) _
    refine XS.iand X0.here hx rfl (hb hby at_20) rfl ?_
    show Steps p.tables e below (s₁.setTop (mkF m 21 #[.val (.int p0), .val (.int p1), .val (.int p2), .val (.int p3), .val (.int p4), .val (.int k), .val (.int cx), .unset, .unset, .unset, .unset, .unset, .unset, .unset] [(.int (p3 &&& (255 : Int32)))])) _
    refine XS.i2c X0.here hx rfl (hb hby at_21) rfl ?_
    show Steps p.tables e below (s₁.setTop (mkF m 22 #[.val (.int p0), .val (.int p1), .val (.int p2), .val (.int p3), .val (.int p4), .val (.int k), .val (.int cx), .unset, .unset, .unset, .unset, .unset, .unset, .unset] [(.int ((p3 &&& (255 : Int32)).toUInt32.toUInt16.toUInt32.toInt32))])) _
    refine XS.istore X0.here hx rfl (hb hby at_22) rfl (l' := #[.val (.int p0), .val (.int p1), .val (.int p2), .val (.int p3), .val (.int p4), .val (.int k), .val (.int cx), .val (.int ((p3 &&& (255 : Int32)).toUInt32.toUInt16.toUInt32.toInt32)), .unset, .unset, .unset, .unset, .unset, .unset]) rfl ?_
    show Steps p.tables e below (s₁.setTop (mkF m 24 #[.val (.int p0), .val (.int p1), .val (.int p2), .val (.int p3), .val (.int p4), .val (.int k), .val (.int cx), .val (.int ((p3 &&& (255 : Int32)).toUInt32.toUInt16.toUInt32.toInt32)), .unset, .unset, .unset, .unset, .unset, .unset] [])) _
    exact kt
  obtain ⟨cy, h_cy⟩ : ∃ z, z = ((p3 &&& (255 : Int32)).toUInt32.toUInt16.toUInt32.toInt32) := ⟨_, rfl⟩
  rw [← h_cy] at K3
  rw [← h_cy] at b_cy n_cy
  have b_cz := own_chars p4
  have n_cz := own_nc (p4 &&& (255 : Int32))
  have K4 : ∀ t, Steps p.tables e below (s₁.setTop (mkF m 33 #[.val (.int p0), .val (.int p1), .val (.int p2), .val (.int p3), .val (.int p4), .val (.int k), .val (.int cx), .val (.int cy), .val (.int ((p4 &&& (255 : Int32)).toUInt32.toUInt16.toUInt32.toInt32)), .unset, .unset, .unset, .unset, .unset] [])) t → Steps p.tables e below G0 t := by
    intro t kt
    refine K3 t ?_
    refine XS.iload X0.here hx rfl (hb hby at_24) rfl ?_
    show Steps p.tables e below (s₁.setTop (mkF m 26 #[.val (.int p0), .val (.int p1), .val (.int p2), .val (.int p3), .val (.int p4), .val (.int k), .val (.int cx), .val (.int cy), .unset, .unset, .unset, .unset, .unset, .unset] [(.int p4)])) _
    refine XS.sipush X0.here hx rfl (hb hby at_26) ?_
    show Steps p.tables e below (s₁.setTop (mkF m 29 #[.val (.int p0), .val (.int p1), .val (.int p2), .val (.int p3), .val (.int p4), .val (.int k), .val (.int cx), .val (.int cy), .unset, .unset, .unset, .unset, .unset, .unset] [(.int (255 : Int32)), (.int p4)])) _
    refine XS.iand X0.here hx rfl (hb hby at_29) rfl ?_
    show Steps p.tables e below (s₁.setTop (mkF m 30 #[.val (.int p0), .val (.int p1), .val (.int p2), .val (.int p3), .val (.int p4), .val (.int k), .val (.int cx), .val (.int cy), .unset, .unset, .unset, .unset, .unset, .unset] [(.int (p4 &&& (255 : Int32)))])) _
    refine XS.i2c X0.here hx rfl (hb hby at_30) rfl ?_
    show Steps p.tables e below (s₁.setTop (mkF m 31 #[.val (.int p0), .val (.int p1), .val (.int p2), .val (.int p3), .val (.int p4), .val (.int k), .val (.int cx), .val (.int cy), .unset, .unset, .unset, .unset, .unset, .unset] [(.int ((p4 &&& (255 : Int32)).toUInt32.toUInt16.toUInt32.toInt32))])) _
    refine XS.istore X0.here hx rfl (hb hby at_31) rfl (l' := #[.val (.int p0), .val (.int p1), .val (.int p2), .val (.int p3), .val (.int p4), .val (.int k), .val (.int cx), .val (.int cy), .val (.int ((p4 &&& (255 : Int32)).toUInt32.toUInt16.toUInt32.toInt32)), .unset, .unset, .unset, .unset, .unset]) rfl ?_
    show Steps p.tables e below (s₁.setTop (mkF m 33 #[.val (.int p0), .val (.int p1), .val (.int p2), .val (.int p3), .val (.int p4), .val (.int k), .val (.int cx), .val (.int cy), .val (.int ((p4 &&& (255 : Int32)).toUInt32.toUInt16.toUInt32.toInt32)), .unset, .unset, .unset, .unset, .unset] [])) _
    exact kt
  obtain ⟨cz, h_cz⟩ : ∃ z, z = ((p4 &&& (255 : Int32)).toUInt32.toUInt16.toUInt32.toInt32) := ⟨_, rfl⟩
  rw [← h_cz] at K4
  rw [← h_cz] at b_cz n_cz
  obtain ⟨TJ, hJ, vmJ, kJ, LJ, aJ, cs, s11, s12, s13, XJ, eJ, NJ, ZJ, hSJ, hkJ, hZJ, hownJ, CHJ, HOJ, SJ, oneJ, KJ⟩ : ∃ (TJ : State) (hJ : Heap) (vmJ : Vm) (kJ : Nat) (LJ : List Loc) (aJ : Addr) (cs : List Int32) (s11 s12 s13 : Slot), Stand p l e room_1 (s.setVm vmJ) m #[(.int p0), (.int p1), (.int p2), (.int p3), (.int p4)] below meth c TJ LJ 30 1200 ∧ TJ.heap = hJ ∧ Fr n0 LJ ∧ n0 ≤ hJ.size ∧ s.Since vmJ kJ ∧ kJ ≤ hJ.size ∧ Z.Warmed39 (s.setVm vmJ).vm ∧ (s.setVm vmJ).vm.findClass "com/example/affordance/affordance/MediaTypesContentTypePinLaw" = some m.cls ∧ CHr Z consts_1 s.vm h0 vmJ hJ ∧ Old Z n0 hJ ∧ own_Str Z hJ aJ cs ∧ One s11 ∧ ∀ t, Steps p.tables e below (TJ.setTop (mkF m 510 #[.val (.int p0), .val (.int p1), .val (.int p2), .val (.int p3), .val (.int p4), .val (.int k), .val (.int cx), .val (.int cy), .val (.int cz), .val (.ref aJ), .val (.int (own_q cs own_html)), s11, s12, s13] [])) t → Steps p.tables e below G0 t := by
    rcases hk5 with hk5 | hk5 | hk5 | hk5 | hk5
    ·
      rw [hk5] at K4
      have K6 : ∀ t, Steps p.tables e below (s₁.setTop (mkF m 38 #[.val (.int p0), .val (.int p1), .val (.int p2), .val (.int p3), .val (.int p4), .val (.int (0 : Int32)), .val (.int cx), .val (.int cy), .val (.int cz), .unset, .unset, .unset, .unset, .unset] [])) t → Steps p.tables e below G0 t := by
        intro t kt
        refine K4 t ?_
        refine XS.iload X0.here hx rfl (hb hby at_33) rfl ?_
        show Steps p.tables e below (s₁.setTop (mkF m 35 #[.val (.int p0), .val (.int p1), .val (.int p2), .val (.int p3), .val (.int p4), .val (.int (0 : Int32)), .val (.int cx), .val (.int cy), .val (.int cz), .unset, .unset, .unset, .unset, .unset] [(.int (0 : Int32))])) _
        refine XS.ifNo X0.here hx rfl (hb hby at_35) rfl ((if0 _ _).trans (teq (by decide)).2) ?_
        show Steps p.tables e below (s₁.setTop (mkF m 38 #[.val (.int p0), .val (.int p1), .val (.int p2), .val (.int p3), .val (.int p4), .val (.int (0 : Int32)), .val (.int cx), .val (.int cy), .val (.int cz), .unset, .unset, .unset, .unset, .unset] [])) _
        exact kt
      obtain ⟨a7, T7, h7, kk7, bb7, kc7, X7, e7, E7, hS7, hk7, hZ7, hown7, LE7, LC7, LV7, LA7, la7, lb7, CR7, -, -, st7⟩ := ldcCH X0 hx hZ hown (hw _ (List.mem_of_getElem? (i := 1) rfl)) (own_wS hw) e0 hS0 hk0 hEL (by decide +kernel) CH0.1 (vs := [(.int (116 : Int32)), (.int (101 : Int32)), (.int (120 : Int32)), (.int (116 : Int32)), (.int (47 : Int32)), (.int (104 : Int32)), (.int (116 : Int32)), (.int (109 : Int32)), (.int (108 : Int32))]) (z := (9 : Int32)) ⟨by decide, by decide⟩ (by decide) (by decide) (g := (mkF m 38 #[.val (.int p0), .val (.int p1), .val (.int p2), .val (.int p3), .val (.int p4), .val (.int (0 : Int32)), .val (.int cx), .val (.int cy), .val (.int cz), .unset, .unset, .unset, .unset, .unset] [])) rfl (hb hby at_38) (n := 36) (by decide) (by decide) (by decide) (by decide)
      have K7 : ∀ t, Steps p.tables e below (T7.setTop (mkF m 40 #[.val (.int p0), .val (.int p1), .val (.int p2), .val (.int p3), .val (.int p4), .val (.int (0 : Int32)), .val (.int cx), .val (.int cy), .val (.int cz), .unset, .unset, .unset, .unset, .unset] [(.ref a7)])) t → Steps p.tables e below G0 t := fun t kt => K6 t (st7 _ kt)
      have Z7 : n0 ≤ h7.size := Nat.le_trans Z0 E7.1
      have CH7 := CH0.trans CR7
      have hl7 : ((([(116 : Int32), (101 : Int32), (120 : Int32), (116 : Int32), (47 : Int32), (104 : Int32), (116 : Int32), (109 : Int32), (108 : Int32)] : List Int32).map StrChars.lo8).map Value.int) = [(.int (116 : Int32)), (.int (101 : Int32)), (.int (120 : Int32)), (.int (116 : Int32)), (.int (47 : Int32)), (.int (104 : Int32)), (.int (116 : Int32)), (.int (109 : Int32)), (.int (108 : Int32))] := by decide +kernel
      have sl7 : own_Str Z h7 a7 [(116 : Int32), (101 : Int32), (120 : Int32), (116 : Int32), (47 : Int32), (104 : Int32), (116 : Int32), (109 : Int32), (108 : Int32)] := ⟨LE7, LC7, ⟨_, _, LV7, by rw [hl7]; exact LA7⟩, by decide, by decide⟩
      have K8 : ∀ t, Steps p.tables e below (T7.setTop (mkF m 510 #[.val (.int p0), .val (.int p1), .val (.int p2), .val (.int p3), .val (.int p4), .val (.int (0 : Int32)), .val (.int cx), .val (.int cy), .val (.int cz), .val (.ref a7), .val (.int (1 : Int32)), .unset, .unset, .unset] [])) t → Steps p.tables e below G0 t := by
        intro t kt
        refine K7 t ?_
        refine XS.astore X7.here hx rfl (hb hby at_40) rfl rfl (l' := #[.val (.int p0), .val (.int p1), .val (.int p2), .val (.int p3), .val (.int p4), .val (.int (0 : Int32)), .val (.int cx), .val (.int cy), .val (.int cz), .val (.ref a7), .unset, .unset, .unset, .unset]) rfl ?_
        show Steps p.tables e below (T7.setTop (mkF m 42 #[.val (.int p0), .val (.int p1), .val (.int p2), .val (.int p3), .val (.int p4), .val (.int (0 : Int32)), .val (.int cx), .val (.int cy), .val (.int cz), .val (.ref a7), .unset, .unset, .unset, .unset] [])) _
        refine XS.iconst X7.here hx rfl (hb hby at_42) ?_
        show Steps p.tables e below (T7.setTop (mkF m 43 #[.val (.int p0), .val (.int p1), .val (.int p2), .val (.int p3), .val (.int p4), .val (.int (0 : Int32)), .val (.int cx), .val (.int cy), .val (.int cz), .val (.ref a7), .unset, .unset, .unset, .unset] [(.int (1 : Int32))])) _
        refine XS.istore X7.here hx rfl (hb hby at_43) rfl (l' := #[.val (.int p0), .val (.int p1), .val (.int p2), .val (.int p3), .val (.int p4), .val (.int (0 : Int32)), .val (.int cx), .val (.int cy), .val (.int cz), .val (.ref a7), .val (.int (1 : Int32)), .unset, .unset, .unset]) rfl ?_
        show Steps p.tables e below (T7.setTop (mkF m 45 #[.val (.int p0), .val (.int p1), .val (.int p2), .val (.int p3), .val (.int p4), .val (.int (0 : Int32)), .val (.int cx), .val (.int cy), .val (.int cz), .val (.ref a7), .val (.int (1 : Int32)), .unset, .unset, .unset] [])) _
        refine XS.goto X7.here hx rfl (pc0 := 45) (pc' := 510) rfl (hb hby at_45) (by decide) (by decide) ?_
        show Steps p.tables e below (T7.setTop (mkF m 510 #[.val (.int p0), .val (.int p1), .val (.int p2), .val (.int p3), .val (.int p4), .val (.int (0 : Int32)), .val (.int cx), .val (.int cy), .val (.int cz), .val (.ref a7), .val (.int (1 : Int32)), .unset, .unset, .unset] [])) _
        exact kt
      have f9 := (HO.ext E7)
      have hq : own_q [(116 : Int32), (101 : Int32), (120 : Int32), (116 : Int32), (47 : Int32), (104 : Int32), (116 : Int32), (109 : Int32), (108 : Int32)] own_html = (1 : Int32) := by decide
      exact ⟨_, _, _, _, _, a7, [(116 : Int32), (101 : Int32), (120 : Int32), (116 : Int32), (47 : Int32), (104 : Int32), (116 : Int32), (109 : Int32), (108 : Int32)], .unset, .unset, .unset, X7.more (Nat.le_of_ble_eq_true rfl) (Nat.le_of_ble_eq_true rfl), e7, N0, Z7, hS7, hk7, hZ7, hown7, CH7, f9, sl7, One.u, fun t kt => K8 t (by rw [hq, hk5] at kt; exact kt)⟩
    ·
      rw [hk5] at K4
      have K10 : ∀ t, Steps p.tables e below (s₁.setTop (mkF m 56 #[.val (.int p0), .val (.int p1), .val (.int p2), .val (.int p3), .val (.int p4), .val (.int (1 : Int32)), .val (.int cx), .val (.int cy), .val (.int cz), .unset, .unset, .unset, .unset, .unset] [(.int (9 : Int32))])) t → Steps p.tables e below G0 t := by
        intro t kt
        refine K4 t ?_
        refine XS.iload X0.here hx rfl (hb hby at_33) rfl ?_
        show Steps p.tables e below (s₁.setTop (mkF m 35 #[.val (.int p0), .val (.int p1), .val (.int p2), .val (.int p3), .val (.int p4), .val (.int (1 : Int32)), .val (.int cx), .val (.int cy), .val (.int cz), .unset, .unset, .unset, .unset, .unset] [(.int (1 : Int32))])) _
        refine XS.ifYes X0.here hx rfl (pc0 := 35) (pc' := 48) rfl (hb hby at_35) rfl ((if0 _ _).trans (feq (by decide)).2) (by decide) (by decide) ?_
        show Steps p.tables e below (s₁.setTop (mkF m 48 #[.val (.int p0), .val (.int p1), .val (.int p2), .val (.int p3), .val (.int p4), .val (.int (1 : Int32)), .val (.int cx), .val (.int cy), .val (.int cz), .unset, .unset, .unset, .unset, .unset] [])) _
        refine XS.iload X0.here hx rfl (hb hby at_48) rfl ?_
        show Steps p.tables e below (s₁.setTop (mkF m 50 #[.val (.int p0), .val (.int p1), .val (.int p2), .val (.int p3), .val (.int p4), .val (.int (1 : Int32)), .val (.int cx), .val (.int cy), .val (.int cz), .unset, .unset, .unset, .unset, .unset] [(.int (1 : Int32))])) _
        refine XS.iconst X0.here hx rfl (hb hby at_50) ?_
        show Steps p.tables e below (s₁.setTop (mkF m 51 #[.val (.int p0), .val (.int p1), .val (.int p2), .val (.int p3), .val (.int p4), .val (.int (1 : Int32)), .val (.int cx), .val (.int cy), .val (.int cz), .unset, .unset, .unset, .unset, .unset] [(.int (1 : Int32)), (.int (1 : Int32))])) _
        refine XS.icmpNo X0.here hx rfl (hb hby at_51) rfl (teq (by decide)).2 ?_
        show Steps p.tables e below (s₁.setTop (mkF m 54 #[.val (.int p0), .val (.int p1), .val (.int p2), .val (.int p3), .val (.int p4), .val (.int (1 : Int32)), .val (.int cx), .val (.int cy), .val (.int cz), .unset, .unset, .unset, .unset, .unset] [])) _
        refine XS.bipush X0.here hx rfl (hb hby at_54) ?_
        show Steps p.tables e below (s₁.setTop (mkF m 56 #[.val (.int p0), .val (.int p1), .val (.int p2), .val (.int p3), .val (.int p4), .val (.int (1 : Int32)), .val (.int cx), .val (.int cy), .val (.int cz), .unset, .unset, .unset, .unset, .unset] [(.int (9 : Int32))])) _
        exact kt
      obtain ⟨T11, h11, k11, X11, e11, E11, A11, st11⟩ := newP X0 hx hZ (hw _ (List.mem_of_getElem? (i := 33) rfl)) e0 (g := (mkF m 56 #[.val (.int p0), .val (.int p1), .val (.int p2), .val (.int p3), .val (.int p4), .val (.int (1 : Int32)), .val (.int cx), .val (.int cy), .val (.int cz), .unset, .unset, .unset, .unset, .unset] [(.int (9 : Int32))])) rfl (hb hby at_56) rfl (by decide) (cap := 9) (by decide) (by decide) (by decide) (by decide)
      obtain ⟨b11, g11⟩ : ∃ z, z = h0.size := ⟨_, rfl⟩
      rw [← g11] at A11 st11
      have V11 := Arv.new A11 (by decide)
      have gn11 : n0 ≤ b11 := Nat.le_trans Z0 (Nat.le_of_eq g11.symm)
      have Z11 : n0 ≤ h11.size := Nat.le_trans Z0 E11.1
      have K11 : ∀ t, Steps p.tables e below (T11.setTop (mkF m 58 #[.val (.int p0), .val (.int p1), .val (.int p2), .val (.int p3), .val (.int p4), .val (.int (1 : Int32)), .val (.int cx), .val (.int cy), .val (.int cz), .unset, .unset, .unset, .unset, .unset] [(.ref b11)])) t → Steps p.tables e below G0 t := fun t kt => K10 t (st11 _ kt)
      have VL11 : Arv Z h11 b11 k11 .char (9 : Int32) [(.int (0 : Int32)), (.int (0 : Int32)), (.int (0 : Int32)), (.int (0 : Int32)), (.int (0 : Int32)), (.int (0 : Int32)), (.int (0 : Int32)), (.int (0 : Int32)), (.int (0 : Int32))] (.int (0 : Int32)) := V11.pad (pad_rep [] (.int (0 : Int32)) 9)
      have K12 : ∀ t, Steps p.tables e below (T11.setTop (mkF m 62 #[.val (.int p0), .val (.int p1), .val (.int p2), .val (.int p3), .val (.int p4), .val (.int (1 : Int32)), .val (.int cx), .val (.int cy), .val (.int cz), .unset, .unset, .unset, .unset, .unset] [(.int (116 : Int32)), (.int (0 : Int32)), (.ref b11), (.ref b11)])) t → Steps p.tables e below G0 t := by
        intro t kt
        refine K11 t ?_
        refine XS.dup X11.here hx rfl (hb hby at_58) rfl rfl ?_
        show Steps p.tables e below (T11.setTop (mkF m 59 #[.val (.int p0), .val (.int p1), .val (.int p2), .val (.int p3), .val (.int p4), .val (.int (1 : Int32)), .val (.int cx), .val (.int cy), .val (.int cz), .unset, .unset, .unset, .unset, .unset] [(.ref b11), (.ref b11)])) _
        refine XS.iconst X11.here hx rfl (hb hby at_59) ?_
        show Steps p.tables e below (T11.setTop (mkF m 60 #[.val (.int p0), .val (.int p1), .val (.int p2), .val (.int p3), .val (.int p4), .val (.int (1 : Int32)), .val (.int cx), .val (.int cy), .val (.int cz), .unset, .unset, .unset, .unset, .unset] [(.int (0 : Int32)), (.ref b11), (.ref b11)])) _
        refine XS.bipush X11.here hx rfl (hb hby at_60) ?_
        show Steps p.tables e below (T11.setTop (mkF m 62 #[.val (.int p0), .val (.int p1), .val (.int p2), .val (.int p3), .val (.int p4), .val (.int (1 : Int32)), .val (.int cx), .val (.int cy), .val (.int cz), .unset, .unset, .unset, .unset, .unset] [(.int (116 : Int32)), (.int (0 : Int32)), (.ref b11), (.ref b11)])) _
        exact kt
      obtain ⟨cl13, Ar13, qq13, S13, M13, H13, GG13⟩ := id VL11
      have hin13 : ¬ ((0 : Int32) < 0 ∨ cl13.slots.size ≤ ((0 : Int32)).toNatClampNeg) := inb_of S13 ⟨by decide, by decide⟩
      obtain ⟨T14, h14, X14, e14, W14, st14⟩ := stC X11 hx hZ e11 Ar13 (j := (0 : Int32)) hin13 (g := (mkF m 62 #[.val (.int p0), .val (.int p1), .val (.int p2), .val (.int p3), .val (.int p4), .val (.int (1 : Int32)), .val (.int cx), .val (.int cy), .val (.int cz), .unset, .unset, .unset, .unset, .unset] [(.int (116 : Int32)), (.int (0 : Int32)), (.ref b11), (.ref b11)])) rfl rfl (hb hby at_62)
      have K14 : ∀ t, Steps p.tables e below (T14.setTop (mkF m 63 #[.val (.int p0), .val (.int p1), .val (.int p2), .val (.int p3), .val (.int p4), .val (.int (1 : Int32)), .val (.int cx), .val (.int cy), .val (.int cz), .unset, .unset, .unset, .unset, .unset] [(.ref b11)])) t → Steps p.tables e below G0 t := fun t kt => K12 t (st14 _ kt)
      have Z14 : n0 ≤ h14.size := Nat.le_trans Z11 (Keep.of_wr W14).1
      have VL14 : Arv Z h14 b11 k11 .char (9 : Int32) [(.int (nar .char (116 : Int32))), (.int (0 : Int32)), (.int (0 : Int32)), (.int (0 : Int32)), (.int (0 : Int32)), (.int (0 : Int32)), (.int (0 : Int32)), (.int (0 : Int32)), (.int (0 : Int32))] (.int (0 : Int32)) := Arv.set Ar13 qq13 S13 M13 H13 GG13 (fits_nar_char _) W14 0 rfl (Nat.le_of_ble_eq_true rfl)
      have N14 := Fr.snoc X14 N0 gn11
      have K15 : ∀ t, Steps p.tables e below (T14.setTop (mkF m 67 #[.val (.int p0), .val (.int p1), .val (.int p2), .val (.int p3), .val (.int p4), .val (.int (1 : Int32)), .val (.int cx), .val (.int cy), .val (.int cz), .unset, .unset, .unset, .unset, .unset] [(.int (101 : Int32)), (.int (1 : Int32)), (.ref b11), (.ref b11)])) t → Steps p.tables e below G0 t := by
        intro t kt
        refine K14 t ?_
        refine XS.dup X14.here hx rfl (hb hby at_63) rfl rfl ?_
        show Steps p.tables e below (T14.setTop (mkF m 64 #[.val (.int p0), .val (.int p1), .val (.int p2), .val (.int p3), .val (.int p4), .val (.int (1 : Int32)), .val (.int cx), .val (.int cy), .val (.int cz), .unset, .unset, .unset, .unset, .unset] [(.ref b11), (.ref b11)])) _
        refine XS.iconst X14.here hx rfl (hb hby at_64) ?_
        show Steps p.tables e below (T14.setTop (mkF m 65 #[.val (.int p0), .val (.int p1), .val (.int p2), .val (.int p3), .val (.int p4), .val (.int (1 : Int32)), .val (.int cx), .val (.int cy), .val (.int cz), .unset, .unset, .unset, .unset, .unset] [(.int (1 : Int32)), (.ref b11), (.ref b11)])) _
        refine XS.bipush X14.here hx rfl (hb hby at_65) ?_
        show Steps p.tables e below (T14.setTop (mkF m 67 #[.val (.int p0), .val (.int p1), .val (.int p2), .val (.int p3), .val (.int p4), .val (.int (1 : Int32)), .val (.int cx), .val (.int cy), .val (.int cz), .unset, .unset, .unset, .unset, .unset] [(.int (101 : Int32)), (.int (1 : Int32)), (.ref b11), (.ref b11)])) _
        exact kt
      obtain ⟨cl16, Ar16, qq16, S16, M16, H16, GG16⟩ := id VL14
      have hin16 : ¬ ((1 : Int32) < 0 ∨ cl16.slots.size ≤ ((1 : Int32)).toNatClampNeg) := inb_of S16 ⟨by decide, by decide⟩
      obtain ⟨T17, h17, X17, e17, W17, st17⟩ := stC X14 hx hZ e14 Ar16 (j := (1 : Int32)) hin16 (g := (mkF m 67 #[.val (.int p0), .val (.int p1), .val (.int p2), .val (.int p3), .val (.int p4), .val (.int (1 : Int32)), .val (.int cx), .val (.int cy), .val (.int cz), .unset, .unset, .unset, .unset, .unset] [(.int (101 : Int32)), (.int (1 : Int32)), (.ref b11), (.ref b11)])) rfl rfl (hb hby at_67)
      have K17 : ∀ t, Steps p.tables e below (T17.setTop (mkF m 68 #[.val (.int p0), .val (.int p1), .val (.int p2), .val (.int p3), .val (.int p4), .val (.int (1 : Int32)), .val (.int cx), .val (.int cy), .val (.int cz), .unset, .unset, .unset, .unset, .unset] [(.ref b11)])) t → Steps p.tables e below G0 t := fun t kt => K15 t (st17 _ kt)
      have Z17 : n0 ≤ h17.size := Nat.le_trans Z14 (Keep.of_wr W17).1
      have VL17 : Arv Z h17 b11 k11 .char (9 : Int32) [(.int (nar .char (116 : Int32))), (.int (nar .char (101 : Int32))), (.int (0 : Int32)), (.int (0 : Int32)), (.int (0 : Int32)), (.int (0 : Int32)), (.int (0 : Int32)), (.int (0 : Int32)), (.int (0 : Int32))] (.int (0 : Int32)) := Arv.set Ar16 qq16 S16 M16 H16 GG16 (fits_nar_char _) W17 1 rfl (Nat.le_of_ble_eq_true rfl)
      have N17 := Fr.snoc X17 N14 gn11
      have K18 : ∀ t, Steps p.tables e below (T17.setTop (mkF m 72 #[.val (.int p0), .val (.int p1), .val (.int p2), .val (.int p3), .val (.int p4), .val (.int (1 : Int32)), .val (.int cx), .val (.int cy), .val (.int cz), .unset, .unset, .unset, .unset, .unset] [(.int (120 : Int32)), (.int (2 : Int32)), (.ref b11), (.ref b11)])) t → Steps p.tables e below G0 t := by
        intro t kt
        refine K17 t ?_
        refine XS.dup X17.here hx rfl (hb hby at_68) rfl rfl ?_
        show Steps p.tables e below (T17.setTop (mkF m 69 #[.val (.int p0), .val (.int p1), .val (.int p2), .val (.int p3), .val (.int p4), .val (.int (1 : Int32)), .val (.int cx), .val (.int cy), .val (.int cz), .unset, .unset, .unset, .unset, .unset] [(.ref b11), (.ref b11)])) _
        refine XS.iconst X17.here hx rfl (hb hby at_69) ?_
        show Steps p.tables e below (T17.setTop (mkF m 70 #[.val (.int p0), .val (.int p1), .val (.int p2), .val (.int p3), .val (.int p4), .val (.int (1 : Int32)), .val (.int cx), .val (.int cy), .val (.int cz), .unset, .unset, .unset, .unset, .unset] [(.int (2 : Int32)), (.ref b11), (.ref b11)])) _
        refine XS.bipush X17.here hx rfl (hb hby at_70) ?_
        show Steps p.tables e below (T17.setTop (mkF m 72 #[.val (.int p0), .val (.int p1), .val (.int p2), .val (.int p3), .val (.int p4), .val (.int (1 : Int32)), .val (.int cx), .val (.int cy), .val (.int cz), .unset, .unset, .unset, .unset, .unset] [(.int (120 : Int32)), (.int (2 : Int32)), (.ref b11), (.ref b11)])) _
        exact kt
      obtain ⟨cl19, Ar19, qq19, S19, M19, H19, GG19⟩ := id VL17
      have hin19 : ¬ ((2 : Int32) < 0 ∨ cl19.slots.size ≤ ((2 : Int32)).toNatClampNeg) := inb_of S19 ⟨by decide, by decide⟩
      obtain ⟨T20, h20, X20, e20, W20, st20⟩ := stC X17 hx hZ e17 Ar19 (j := (2 : Int32)) hin19 (g := (mkF m 72 #[.val (.int p0), .val (.int p1), .val (.int p2), .val (.int p3), .val (.int p4), .val (.int (1 : Int32)), .val (.int cx), .val (.int cy), .val (.int cz), .unset, .unset, .unset, .unset, .unset] [(.int (120 : Int32)), (.int (2 : Int32)), (.ref b11), (.ref b11)])) rfl rfl (hb hby at_72)
      have K20 : ∀ t, Steps p.tables e below (T20.setTop (mkF m 73 #[.val (.int p0), .val (.int p1), .val (.int p2), .val (.int p3), .val (.int p4), .val (.int (1 : Int32)), .val (.int cx), .val (.int cy), .val (.int cz), .unset, .unset, .unset, .unset, .unset] [(.ref b11)])) t → Steps p.tables e below G0 t := fun t kt => K18 t (st20 _ kt)
      have Z20 : n0 ≤ h20.size := Nat.le_trans Z17 (Keep.of_wr W20).1
      have VL20 : Arv Z h20 b11 k11 .char (9 : Int32) [(.int (nar .char (116 : Int32))), (.int (nar .char (101 : Int32))), (.int (nar .char (120 : Int32))), (.int (0 : Int32)), (.int (0 : Int32)), (.int (0 : Int32)), (.int (0 : Int32)), (.int (0 : Int32)), (.int (0 : Int32))] (.int (0 : Int32)) := Arv.set Ar19 qq19 S19 M19 H19 GG19 (fits_nar_char _) W20 2 rfl (Nat.le_of_ble_eq_true rfl)
      have N20 := Fr.snoc X20 N17 gn11
      have K21 : ∀ t, Steps p.tables e below (T20.setTop (mkF m 77 #[.val (.int p0), .val (.int p1), .val (.int p2), .val (.int p3), .val (.int p4), .val (.int (1 : Int32)), .val (.int cx), .val (.int cy), .val (.int cz), .unset, .unset, .unset, .unset, .unset] [(.int (116 : Int32)), (.int (3 : Int32)), (.ref b11), (.ref b11)])) t → Steps p.tables e below G0 t := by
        intro t kt
        refine K20 t ?_
        refine XS.dup X20.here hx rfl (hb hby at_73) rfl rfl ?_
        show Steps p.tables e below (T20.setTop (mkF m 74 #[.val (.int p0), .val (.int p1), .val (.int p2), .val (.int p3), .val (.int p4), .val (.int (1 : Int32)), .val (.int cx), .val (.int cy), .val (.int cz), .unset, .unset, .unset, .unset, .unset] [(.ref b11), (.ref b11)])) _
        refine XS.iconst X20.here hx rfl (hb hby at_74) ?_
        show Steps p.tables e below (T20.setTop (mkF m 75 #[.val (.int p0), .val (.int p1), .val (.int p2), .val (.int p3), .val (.int p4), .val (.int (1 : Int32)), .val (.int cx), .val (.int cy), .val (.int cz), .unset, .unset, .unset, .unset, .unset] [(.int (3 : Int32)), (.ref b11), (.ref b11)])) _
        refine XS.bipush X20.here hx rfl (hb hby at_75) ?_
        show Steps p.tables e below (T20.setTop (mkF m 77 #[.val (.int p0), .val (.int p1), .val (.int p2), .val (.int p3), .val (.int p4), .val (.int (1 : Int32)), .val (.int cx), .val (.int cy), .val (.int cz), .unset, .unset, .unset, .unset, .unset] [(.int (116 : Int32)), (.int (3 : Int32)), (.ref b11), (.ref b11)])) _
        exact kt
      obtain ⟨cl22, Ar22, qq22, S22, M22, H22, GG22⟩ := id VL20
      have hin22 : ¬ ((3 : Int32) < 0 ∨ cl22.slots.size ≤ ((3 : Int32)).toNatClampNeg) := inb_of S22 ⟨by decide, by decide⟩
      obtain ⟨T23, h23, X23, e23, W23, st23⟩ := stC X20 hx hZ e20 Ar22 (j := (3 : Int32)) hin22 (g := (mkF m 77 #[.val (.int p0), .val (.int p1), .val (.int p2), .val (.int p3), .val (.int p4), .val (.int (1 : Int32)), .val (.int cx), .val (.int cy), .val (.int cz), .unset, .unset, .unset, .unset, .unset] [(.int (116 : Int32)), (.int (3 : Int32)), (.ref b11), (.ref b11)])) rfl rfl (hb hby at_77)
      have K23 : ∀ t, Steps p.tables e below (T23.setTop (mkF m 78 #[.val (.int p0), .val (.int p1), .val (.int p2), .val (.int p3), .val (.int p4), .val (.int (1 : Int32)), .val (.int cx), .val (.int cy), .val (.int cz), .unset, .unset, .unset, .unset, .unset] [(.ref b11)])) t → Steps p.tables e below G0 t := fun t kt => K21 t (st23 _ kt)
      have Z23 : n0 ≤ h23.size := Nat.le_trans Z20 (Keep.of_wr W23).1
      have VL23 : Arv Z h23 b11 k11 .char (9 : Int32) [(.int (nar .char (116 : Int32))), (.int (nar .char (101 : Int32))), (.int (nar .char (120 : Int32))), (.int (nar .char (116 : Int32))), (.int (0 : Int32)), (.int (0 : Int32)), (.int (0 : Int32)), (.int (0 : Int32)), (.int (0 : Int32))] (.int (0 : Int32)) := Arv.set Ar22 qq22 S22 M22 H22 GG22 (fits_nar_char _) W23 3 rfl (Nat.le_of_ble_eq_true rfl)
      have N23 := Fr.snoc X23 N20 gn11
      have K24 : ∀ t, Steps p.tables e below (T23.setTop (mkF m 82 #[.val (.int p0), .val (.int p1), .val (.int p2), .val (.int p3), .val (.int p4), .val (.int (1 : Int32)), .val (.int cx), .val (.int cy), .val (.int cz), .unset, .unset, .unset, .unset, .unset] [(.int (47 : Int32)), (.int (4 : Int32)), (.ref b11), (.ref b11)])) t → Steps p.tables e below G0 t := by
        intro t kt
        refine K23 t ?_
        refine XS.dup X23.here hx rfl (hb hby at_78) rfl rfl ?_
        show Steps p.tables e below (T23.setTop (mkF m 79 #[.val (.int p0), .val (.int p1), .val (.int p2), .val (.int p3), .val (.int p4), .val (.int (1 : Int32)), .val (.int cx), .val (.int cy), .val (.int cz), .unset, .unset, .unset, .unset, .unset] [(.ref b11), (.ref b11)])) _
        refine XS.iconst X23.here hx rfl (hb hby at_79) ?_
        show Steps p.tables e below (T23.setTop (mkF m 80 #[.val (.int p0), .val (.int p1), .val (.int p2), .val (.int p3), .val (.int p4), .val (.int (1 : Int32)), .val (.int cx), .val (.int cy), .val (.int cz), .unset, .unset, .unset, .unset, .unset] [(.int (4 : Int32)), (.ref b11), (.ref b11)])) _
        refine XS.bipush X23.here hx rfl (hb hby at_80) ?_
        show Steps p.tables e below (T23.setTop (mkF m 82 #[.val (.int p0), .val (.int p1), .val (.int p2), .val (.int p3), .val (.int p4), .val (.int (1 : Int32)), .val (.int cx), .val (.int cy), .val (.int cz), .unset, .unset, .unset, .unset, .unset] [(.int (47 : Int32)), (.int (4 : Int32)), (.ref b11), (.ref b11)])) _
        exact kt
      obtain ⟨cl25, Ar25, qq25, S25, M25, H25, GG25⟩ := id VL23
      have hin25 : ¬ ((4 : Int32) < 0 ∨ cl25.slots.size ≤ ((4 : Int32)).toNatClampNeg) := inb_of S25 ⟨by decide, by decide⟩
      obtain ⟨T26, h26, X26, e26, W26, st26⟩ := stC X23 hx hZ e23 Ar25 (j := (4 : Int32)) hin25 (g := (mkF m 82 #[.val (.int p0), .val (.int p1), .val (.int p2), .val (.int p3), .val (.int p4), .val (.int (1 : Int32)), .val (.int cx), .val (.int cy), .val (.int cz), .unset, .unset, .unset, .unset, .unset] [(.int (47 : Int32)), (.int (4 : Int32)), (.ref b11), (.ref b11)])) rfl rfl (hb hby at_82)
      have K26 : ∀ t, Steps p.tables e below (T26.setTop (mkF m 83 #[.val (.int p0), .val (.int p1), .val (.int p2), .val (.int p3), .val (.int p4), .val (.int (1 : Int32)), .val (.int cx), .val (.int cy), .val (.int cz), .unset, .unset, .unset, .unset, .unset] [(.ref b11)])) t → Steps p.tables e below G0 t := fun t kt => K24 t (st26 _ kt)
      have Z26 : n0 ≤ h26.size := Nat.le_trans Z23 (Keep.of_wr W26).1
      have VL26 : Arv Z h26 b11 k11 .char (9 : Int32) [(.int (nar .char (116 : Int32))), (.int (nar .char (101 : Int32))), (.int (nar .char (120 : Int32))), (.int (nar .char (116 : Int32))), (.int (nar .char (47 : Int32))), (.int (0 : Int32)), (.int (0 : Int32)), (.int (0 : Int32)), (.int (0 : Int32))] (.int (0 : Int32)) := Arv.set Ar25 qq25 S25 M25 H25 GG25 (fits_nar_char _) W26 4 rfl (Nat.le_of_ble_eq_true rfl)
      have N26 := Fr.snoc X26 N23 gn11
      have K27 : ∀ t, Steps p.tables e below (T26.setTop (mkF m 87 #[.val (.int p0), .val (.int p1), .val (.int p2), .val (.int p3), .val (.int p4), .val (.int (1 : Int32)), .val (.int cx), .val (.int cy), .val (.int cz), .unset, .unset, .unset, .unset, .unset] [(.int (104 : Int32)), (.int (5 : Int32)), (.ref b11), (.ref b11)])) t → Steps p.tables e below G0 t := by
        intro t kt
        refine K26 t ?_
        refine XS.dup X26.here hx rfl (hb hby at_83) rfl rfl ?_
        show Steps p.tables e below (T26.setTop (mkF m 84 #[.val (.int p0), .val (.int p1), .val (.int p2), .val (.int p3), .val (.int p4), .val (.int (1 : Int32)), .val (.int cx), .val (.int cy), .val (.int cz), .unset, .unset, .unset, .unset, .unset] [(.ref b11), (.ref b11)])) _
        refine XS.iconst X26.here hx rfl (hb hby at_84) ?_
        show Steps p.tables e below (T26.setTop (mkF m 85 #[.val (.int p0), .val (.int p1), .val (.int p2), .val (.int p3), .val (.int p4), .val (.int (1 : Int32)), .val (.int cx), .val (.int cy), .val (.int cz), .unset, .unset, .unset, .unset, .unset] [(.int (5 : Int32)), (.ref b11), (.ref b11)])) _
        refine XS.bipush X26.here hx rfl (hb hby at_85) ?_
        show Steps p.tables e below (T26.setTop (mkF m 87 #[.val (.int p0), .val (.int p1), .val (.int p2), .val (.int p3), .val (.int p4), .val (.int (1 : Int32)), .val (.int cx), .val (.int cy), .val (.int cz), .unset, .unset, .unset, .unset, .unset] [(.int (104 : Int32)), (.int (5 : Int32)), (.ref b11), (.ref b11)])) _
        exact kt
      obtain ⟨cl28, Ar28, qq28, S28, M28, H28, GG28⟩ := id VL26
      have hin28 : ¬ ((5 : Int32) < 0 ∨ cl28.slots.size ≤ ((5 : Int32)).toNatClampNeg) := inb_of S28 ⟨by decide, by decide⟩
      obtain ⟨T29, h29, X29, e29, W29, st29⟩ := stC X26 hx hZ e26 Ar28 (j := (5 : Int32)) hin28 (g := (mkF m 87 #[.val (.int p0), .val (.int p1), .val (.int p2), .val (.int p3), .val (.int p4), .val (.int (1 : Int32)), .val (.int cx), .val (.int cy), .val (.int cz), .unset, .unset, .unset, .unset, .unset] [(.int (104 : Int32)), (.int (5 : Int32)), (.ref b11), (.ref b11)])) rfl rfl (hb hby at_87)
      have K29 : ∀ t, Steps p.tables e below (T29.setTop (mkF m 88 #[.val (.int p0), .val (.int p1), .val (.int p2), .val (.int p3), .val (.int p4), .val (.int (1 : Int32)), .val (.int cx), .val (.int cy), .val (.int cz), .unset, .unset, .unset, .unset, .unset] [(.ref b11)])) t → Steps p.tables e below G0 t := fun t kt => K27 t (st29 _ kt)
      have Z29 : n0 ≤ h29.size := Nat.le_trans Z26 (Keep.of_wr W29).1
      have VL29 : Arv Z h29 b11 k11 .char (9 : Int32) [(.int (nar .char (116 : Int32))), (.int (nar .char (101 : Int32))), (.int (nar .char (120 : Int32))), (.int (nar .char (116 : Int32))), (.int (nar .char (47 : Int32))), (.int (nar .char (104 : Int32))), (.int (0 : Int32)), (.int (0 : Int32)), (.int (0 : Int32))] (.int (0 : Int32)) := Arv.set Ar28 qq28 S28 M28 H28 GG28 (fits_nar_char _) W29 5 rfl (Nat.le_of_ble_eq_true rfl)
      have N29 := Fr.snoc X29 N26 gn11
      have K30 : ∀ t, Steps p.tables e below (T29.setTop (mkF m 93 #[.val (.int p0), .val (.int p1), .val (.int p2), .val (.int p3), .val (.int p4), .val (.int (1 : Int32)), .val (.int cx), .val (.int cy), .val (.int cz), .unset, .unset, .unset, .unset, .unset] [(.int (116 : Int32)), (.int (6 : Int32)), (.ref b11), (.ref b11)])) t → Steps p.tables e below G0 t := by
        intro t kt
        refine K29 t ?_
        refine XS.dup X29.here hx rfl (hb hby at_88) rfl rfl ?_
        show Steps p.tables e below (T29.setTop (mkF m 89 #[.val (.int p0), .val (.int p1), .val (.int p2), .val (.int p3), .val (.int p4), .val (.int (1 : Int32)), .val (.int cx), .val (.int cy), .val (.int cz), .unset, .unset, .unset, .unset, .unset] [(.ref b11), (.ref b11)])) _
        refine XS.bipush X29.here hx rfl (hb hby at_89) ?_
        show Steps p.tables e below (T29.setTop (mkF m 91 #[.val (.int p0), .val (.int p1), .val (.int p2), .val (.int p3), .val (.int p4), .val (.int (1 : Int32)), .val (.int cx), .val (.int cy), .val (.int cz), .unset, .unset, .unset, .unset, .unset] [(.int (6 : Int32)), (.ref b11), (.ref b11)])) _
        refine XS.bipush X29.here hx rfl (hb hby at_91) ?_
        show Steps p.tables e below (T29.setTop (mkF m 93 #[.val (.int p0), .val (.int p1), .val (.int p2), .val (.int p3), .val (.int p4), .val (.int (1 : Int32)), .val (.int cx), .val (.int cy), .val (.int cz), .unset, .unset, .unset, .unset, .unset] [(.int (116 : Int32)), (.int (6 : Int32)), (.ref b11), (.ref b11)])) _
        exact kt
      obtain ⟨cl31, Ar31, qq31, S31, M31, H31, GG31⟩ := id VL29
      have hin31 : ¬ ((6 : Int32) < 0 ∨ cl31.slots.size ≤ ((6 : Int32)).toNatClampNeg) := inb_of S31 ⟨by decide, by decide⟩
      obtain ⟨T32, h32, X32, e32, W32, st32⟩ := stC X29 hx hZ e29 Ar31 (j := (6 : Int32)) hin31 (g := (mkF m 93 #[.val (.int p0), .val (.int p1), .val (.int p2), .val (.int p3), .val (.int p4), .val (.int (1 : Int32)), .val (.int cx), .val (.int cy), .val (.int cz), .unset, .unset, .unset, .unset, .unset] [(.int (116 : Int32)), (.int (6 : Int32)), (.ref b11), (.ref b11)])) rfl rfl (hb hby at_93)
      have K32 : ∀ t, Steps p.tables e below (T32.setTop (mkF m 94 #[.val (.int p0), .val (.int p1), .val (.int p2), .val (.int p3), .val (.int p4), .val (.int (1 : Int32)), .val (.int cx), .val (.int cy), .val (.int cz), .unset, .unset, .unset, .unset, .unset] [(.ref b11)])) t → Steps p.tables e below G0 t := fun t kt => K30 t (st32 _ kt)
      have Z32 : n0 ≤ h32.size := Nat.le_trans Z29 (Keep.of_wr W32).1
      have VL32 : Arv Z h32 b11 k11 .char (9 : Int32) [(.int (nar .char (116 : Int32))), (.int (nar .char (101 : Int32))), (.int (nar .char (120 : Int32))), (.int (nar .char (116 : Int32))), (.int (nar .char (47 : Int32))), (.int (nar .char (104 : Int32))), (.int (nar .char (116 : Int32))), (.int (0 : Int32)), (.int (0 : Int32))] (.int (0 : Int32)) := Arv.set Ar31 qq31 S31 M31 H31 GG31 (fits_nar_char _) W32 6 rfl (Nat.le_of_ble_eq_true rfl)
      have N32 := Fr.snoc X32 N29 gn11
      have K33 : ∀ t, Steps p.tables e below (T32.setTop (mkF m 99 #[.val (.int p0), .val (.int p1), .val (.int p2), .val (.int p3), .val (.int p4), .val (.int (1 : Int32)), .val (.int cx), .val (.int cy), .val (.int cz), .unset, .unset, .unset, .unset, .unset] [(.int (109 : Int32)), (.int (7 : Int32)), (.ref b11), (.ref b11)])) t → Steps p.tables e below G0 t := by
        intro t kt
        refine K32 t ?_
        refine XS.dup X32.here hx rfl (hb hby at_94) rfl rfl ?_
        show Steps p.tables e below (T32.setTop (mkF m 95 #[.val (.int p0), .val (.int p1), .val (.int p2), .val (.int p3), .val (.int p4), .val (.int (1 : Int32)), .val (.int cx), .val (.int cy), .val (.int cz), .unset, .unset, .unset, .unset, .unset] [(.ref b11), (.ref b11)])) _
        refine XS.bipush X32.here hx rfl (hb hby at_95) ?_
        show Steps p.tables e below (T32.setTop (mkF m 97 #[.val (.int p0), .val (.int p1), .val (.int p2), .val (.int p3), .val (.int p4), .val (.int (1 : Int32)), .val (.int cx), .val (.int cy), .val (.int cz), .unset, .unset, .unset, .unset, .unset] [(.int (7 : Int32)), (.ref b11), (.ref b11)])) _
        refine XS.bipush X32.here hx rfl (hb hby at_97) ?_
        show Steps p.tables e below (T32.setTop (mkF m 99 #[.val (.int p0), .val (.int p1), .val (.int p2), .val (.int p3), .val (.int p4), .val (.int (1 : Int32)), .val (.int cx), .val (.int cy), .val (.int cz), .unset, .unset, .unset, .unset, .unset] [(.int (109 : Int32)), (.int (7 : Int32)), (.ref b11), (.ref b11)])) _
        exact kt
      obtain ⟨cl34, Ar34, qq34, S34, M34, H34, GG34⟩ := id VL32
      have hin34 : ¬ ((7 : Int32) < 0 ∨ cl34.slots.size ≤ ((7 : Int32)).toNatClampNeg) := inb_of S34 ⟨by decide, by decide⟩
      obtain ⟨T35, h35, X35, e35, W35, st35⟩ := stC X32 hx hZ e32 Ar34 (j := (7 : Int32)) hin34 (g := (mkF m 99 #[.val (.int p0), .val (.int p1), .val (.int p2), .val (.int p3), .val (.int p4), .val (.int (1 : Int32)), .val (.int cx), .val (.int cy), .val (.int cz), .unset, .unset, .unset, .unset, .unset] [(.int (109 : Int32)), (.int (7 : Int32)), (.ref b11), (.ref b11)])) rfl rfl (hb hby at_99)
      have K35 : ∀ t, Steps p.tables e below (T35.setTop (mkF m 100 #[.val (.int p0), .val (.int p1), .val (.int p2), .val (.int p3), .val (.int p4), .val (.int (1 : Int32)), .val (.int cx), .val (.int cy), .val (.int cz), .unset, .unset, .unset, .unset, .unset] [(.ref b11)])) t → Steps p.tables e below G0 t := fun t kt => K33 t (st35 _ kt)
      have Z35 : n0 ≤ h35.size := Nat.le_trans Z32 (Keep.of_wr W35).1
      have VL35 : Arv Z h35 b11 k11 .char (9 : Int32) [(.int (nar .char (116 : Int32))), (.int (nar .char (101 : Int32))), (.int (nar .char (120 : Int32))), (.int (nar .char (116 : Int32))), (.int (nar .char (47 : Int32))), (.int (nar .char (104 : Int32))), (.int (nar .char (116 : Int32))), (.int (nar .char (109 : Int32))), (.int (0 : Int32))] (.int (0 : Int32)) := Arv.set Ar34 qq34 S34 M34 H34 GG34 (fits_nar_char _) W35 7 rfl (Nat.le_of_ble_eq_true rfl)
      have N35 := Fr.snoc X35 N32 gn11
      have K36 : ∀ t, Steps p.tables e below (T35.setTop (mkF m 105 #[.val (.int p0), .val (.int p1), .val (.int p2), .val (.int p3), .val (.int p4), .val (.int (1 : Int32)), .val (.int cx), .val (.int cy), .val (.int cz), .unset, .unset, .unset, .unset, .unset] [(.int (108 : Int32)), (.int (8 : Int32)), (.ref b11), (.ref b11)])) t → Steps p.tables e below G0 t := by
        intro t kt
        refine K35 t ?_
        refine XS.dup X35.here hx rfl (hb hby at_100) rfl rfl ?_
        show Steps p.tables e below (T35.setTop (mkF m 101 #[.val (.int p0), .val (.int p1), .val (.int p2), .val (.int p3), .val (.int p4), .val (.int (1 : Int32)), .val (.int cx), .val (.int cy), .val (.int cz), .unset, .unset, .unset, .unset, .unset] [(.ref b11), (.ref b11)])) _
        refine XS.bipush X35.here hx rfl (hb hby at_101) ?_
        show Steps p.tables e below (T35.setTop (mkF m 103 #[.val (.int p0), .val (.int p1), .val (.int p2), .val (.int p3), .val (.int p4), .val (.int (1 : Int32)), .val (.int cx), .val (.int cy), .val (.int cz), .unset, .unset, .unset, .unset, .unset] [(.int (8 : Int32)), (.ref b11), (.ref b11)])) _
        refine XS.bipush X35.here hx rfl (hb hby at_103) ?_
        show Steps p.tables e below (T35.setTop (mkF m 105 #[.val (.int p0), .val (.int p1), .val (.int p2), .val (.int p3), .val (.int p4), .val (.int (1 : Int32)), .val (.int cx), .val (.int cy), .val (.int cz), .unset, .unset, .unset, .unset, .unset] [(.int (108 : Int32)), (.int (8 : Int32)), (.ref b11), (.ref b11)])) _
        exact kt
      obtain ⟨cl37, Ar37, qq37, S37, M37, H37, GG37⟩ := id VL35
      have hin37 : ¬ ((8 : Int32) < 0 ∨ cl37.slots.size ≤ ((8 : Int32)).toNatClampNeg) := inb_of S37 ⟨by decide, by decide⟩
      obtain ⟨T38, h38, X38, e38, W38, st38⟩ := stC X35 hx hZ e35 Ar37 (j := (8 : Int32)) hin37 (g := (mkF m 105 #[.val (.int p0), .val (.int p1), .val (.int p2), .val (.int p3), .val (.int p4), .val (.int (1 : Int32)), .val (.int cx), .val (.int cy), .val (.int cz), .unset, .unset, .unset, .unset, .unset] [(.int (108 : Int32)), (.int (8 : Int32)), (.ref b11), (.ref b11)])) rfl rfl (hb hby at_105)
      have K38 : ∀ t, Steps p.tables e below (T38.setTop (mkF m 106 #[.val (.int p0), .val (.int p1), .val (.int p2), .val (.int p3), .val (.int p4), .val (.int (1 : Int32)), .val (.int cx), .val (.int cy), .val (.int cz), .unset, .unset, .unset, .unset, .unset] [(.ref b11)])) t → Steps p.tables e below G0 t := fun t kt => K36 t (st38 _ kt)
      have Z38 : n0 ≤ h38.size := Nat.le_trans Z35 (Keep.of_wr W38).1
      have VL38 : Arv Z h38 b11 k11 .char (9 : Int32) [(.int (nar .char (116 : Int32))), (.int (nar .char (101 : Int32))), (.int (nar .char (120 : Int32))), (.int (nar .char (116 : Int32))), (.int (nar .char (47 : Int32))), (.int (nar .char (104 : Int32))), (.int (nar .char (116 : Int32))), (.int (nar .char (109 : Int32))), (.int (nar .char (108 : Int32)))] (.int (0 : Int32)) := Arv.set Ar37 qq37 S37 M37 H37 GG37 (fits_nar_char _) W38 8 rfl (Nat.le_of_ble_eq_true rfl)
      have N38 := Fr.snoc X38 N35 gn11
      have K39 : ∀ t, Steps p.tables e below (T38.setTop (mkF m 117 #[.val (.int p0), .val (.int p1), .val (.int p2), .val (.int p3), .val (.int p4), .val (.int (1 : Int32)), .val (.int cx), .val (.int cy), .val (.int cz), .unset, .unset, .val (.ref b11), .val (.int ((p1 &&& (2147483647 : Int32)) % (10 : Int32))), .unset] [])) t → Steps p.tables e below G0 t := by
        intro t kt
        refine K38 t ?_
        refine XS.astore X38.here hx rfl (hb hby at_106) rfl rfl (l' := #[.val (.int p0), .val (.int p1), .val (.int p2), .val (.int p3), .val (.int p4), .val (.int (1 : Int32)), .val (.int cx), .val (.int cy), .val (.int cz), .unset, .unset, .val (.ref b11), .unset, .unset]) rfl ?_
        show Steps p.tables e below (T38.setTop (mkF m 108 #[.val (.int p0), .val (.int p1), .val (.int p2), .val (.int p3), .val (.int p4), .val (.int (1 : Int32)), .val (.int cx), .val (.int cy), .val (.int cz), .unset, .unset, .val (.ref b11), .unset, .unset] [])) _
        refine XS.iloadN X38.here hx rfl (hb hby at_108) rfl ?_
        show Steps p.tables e below (T38.setTop (mkF m 109 #[.val (.int p0), .val (.int p1), .val (.int p2), .val (.int p3), .val (.int p4), .val (.int (1 : Int32)), .val (.int cx), .val (.int cy), .val (.int cz), .unset, .unset, .val (.ref b11), .unset, .unset] [(.int p1)])) _
        refine X38.ldcInt hx hown (mvT hZ (hw _ (List.mem_of_getElem? (i := 0) rfl))) (g := (mkF m 109 #[.val (.int p0), .val (.int p1), .val (.int p2), .val (.int p3), .val (.int p4), .val (.int (1 : Int32)), .val (.int cx), .val (.int cy), .val (.int cz), .unset, .unset, .val (.ref b11), .unset, .unset] [(.int p1)])) rfl (hb hby at_109) _ ?_
        show Steps p.tables e below (T38.setTop (mkF m 111 #[.val (.int p0), .val (.int p1), .val (.int p2), .val (.int p3), .val (.int p4), .val (.int (1 : Int32)), .val (.int cx), .val (.int cy), .val (.int cz), .unset, .unset, .val (.ref b11), .unset, .unset] [(.int (2147483647 : Int32)), (.int p1)])) _
        refine XS.iand X38.here hx rfl (hb hby at_111) rfl ?_
        show Steps p.tables e below (T38.setTop (mkF m 112 #[.val (.int p0), .val (.int p1), .val (.int p2), .val (.int p3), .val (.int p4), .val (.int (1 : Int32)), .val (.int cx), .val (.int cy), .val (.int cz), .unset, .unset, .val (.ref b11), .unset, .unset] [(.int (p1 &&& (2147483647 : Int32)))])) _
        refine XS.bipush X38.here hx rfl (hb hby at_112) ?_
        show Steps p.tables e below (T38.setTop (mkF m 114 #[.val (.int p0), .val (.int p1), .val (.int p2), .val (.int p3), .val (.int p4), .val (.int (1 : Int32)), .val (.int cx), .val (.int cy), .val (.int cz), .unset, .unset, .val (.ref b11), .unset, .unset] [(.int (10 : Int32)), (.int (p1 &&& (2147483647 : Int32)))])) _
        refine iremM X38 hx rfl (hb hby at_114) rfl (by decide) ?_
        show Steps p.tables e below (T38.setTop (mkF m 115 #[.val (.int p0), .val (.int p1), .val (.int p2), .val (.int p3), .val (.int p4), .val (.int (1 : Int32)), .val (.int cx), .val (.int cy), .val (.int cz), .unset, .unset, .val (.ref b11), .unset, .unset] [(.int ((p1 &&& (2147483647 : Int32)) % (10 : Int32)))])) _
        refine XS.istore X38.here hx rfl (hb hby at_115) rfl (l' := #[.val (.int p0), .val (.int p1), .val (.int p2), .val (.int p3), .val (.int p4), .val (.int (1 : Int32)), .val (.int cx), .val (.int cy), .val (.int cz), .unset, .unset, .val (.ref b11), .val (.int ((p1 &&& (2147483647 : Int32)) % (10 : Int32))), .unset]) rfl ?_
        show Steps p.tables e below (T38.setTop (mkF m 117 #[.val (.int p0), .val (.int p1), .val (.int p2), .val (.int p3), .val (.int p4), .val (.int (1 : Int32)), .val (.int cx), .val (.int cy), .val (.int cz), .unset, .unset, .val (.ref b11), .val (.int ((p1 &&& (2147483647 : Int32)) % (10 : Int32))), .unset] [])) _
        exact kt
      obtain ⟨pp, h_pp⟩ : ∃ z, z = ((p1 &&& (2147483647 : Int32)) % (10 : Int32)) := ⟨_, rfl⟩
      rw [← h_pp] at K39
      have K40 : ∀ t, Steps p.tables e below (T38.setTop (mkF m 121 #[.val (.int p0), .val (.int p1), .val (.int p2), .val (.int p3), .val (.int p4), .val (.int (1 : Int32)), .val (.int cx), .val (.int cy), .val (.int cz), .unset, .unset, .val (.ref b11), .val (.int pp), .unset] [(.int (9 : Int32)), (.int pp)])) t → Steps p.tables e below G0 t := by
        intro t kt
        refine K39 t ?_
        refine XS.iload X38.here hx rfl (hb hby at_117) rfl ?_
        show Steps p.tables e below (T38.setTop (mkF m 119 #[.val (.int p0), .val (.int p1), .val (.int p2), .val (.int p3), .val (.int p4), .val (.int (1 : Int32)), .val (.int cx), .val (.int cy), .val (.int cz), .unset, .unset, .val (.ref b11), .val (.int pp), .unset] [(.int pp)])) _
        refine XS.bipush X38.here hx rfl (hb hby at_119) ?_
        show Steps p.tables e below (T38.setTop (mkF m 121 #[.val (.int p0), .val (.int p1), .val (.int p2), .val (.int p3), .val (.int p4), .val (.int (1 : Int32)), .val (.int cx), .val (.int cy), .val (.int cz), .unset, .unset, .val (.ref b11), .val (.int pp), .unset] [(.int (9 : Int32)), (.int pp)])) _
        exact kt
      by_cases hc41 : pp < (9 : Int32)
      ·
        have K42 : ∀ t, Steps p.tables e below (T38.setTop (mkF m 126 #[.val (.int p0), .val (.int p1), .val (.int p2), .val (.int p3), .val (.int p4), .val (.int (1 : Int32)), .val (.int cx), .val (.int cy), .val (.int cz), .unset, .unset, .val (.ref b11), .val (.int pp), .unset] [(.int (9 : Int32))])) t → Steps p.tables e below G0 t := by
          intro t kt
          refine K40 t ?_
          refine XS.icmpNo X38.here hx rfl (hb hby at_121) rfl (tlt hc41).2.1 ?_
          show Steps p.tables e below (T38.setTop (mkF m 124 #[.val (.int p0), .val (.int p1), .val (.int p2), .val (.int p3), .val (.int p4), .val (.int (1 : Int32)), .val (.int cx), .val (.int cy), .val (.int cz), .unset, .unset, .val (.ref b11), .val (.int pp), .unset] [])) _
          refine XS.bipush X38.here hx rfl (hb hby at_124) ?_
          show Steps p.tables e below (T38.setTop (mkF m 126 #[.val (.int p0), .val (.int p1), .val (.int p2), .val (.int p3), .val (.int p4), .val (.int (1 : Int32)), .val (.int cx), .val (.int cy), .val (.int cz), .unset, .unset, .val (.ref b11), .val (.int pp), .unset] [(.int (9 : Int32))])) _
          exact kt
        obtain ⟨T43, h43, k43, X43, e43, E43, A43, st43⟩ := newP X38 hx hZ (hw _ (List.mem_of_getElem? (i := 33) rfl)) e38 (g := (mkF m 126 #[.val (.int p0), .val (.int p1), .val (.int p2), .val (.int p3), .val (.int p4), .val (.int (1 : Int32)), .val (.int cx), .val (.int cy), .val (.int cz), .unset, .unset, .val (.ref b11), .val (.int pp), .unset] [(.int (9 : Int32))])) rfl (hb hby at_126) rfl (by decide) (cap := 9) (by decide) (by decide) (by decide) (by decide)
        obtain ⟨b43, g43⟩ : ∃ z, z = h38.size := ⟨_, rfl⟩
        rw [← g43] at A43 st43
        have V43 := Arv.new A43 (by decide)
        have gn43 : n0 ≤ b43 := Nat.le_trans Z38 (Nat.le_of_eq g43.symm)
        have Z43 : n0 ≤ h43.size := Nat.le_trans Z38 E43.1
        have K43 : ∀ t, Steps p.tables e below (T43.setTop (mkF m 128 #[.val (.int p0), .val (.int p1), .val (.int p2), .val (.int p3), .val (.int p4), .val (.int (1 : Int32)), .val (.int cx), .val (.int cy), .val (.int cz), .unset, .unset, .val (.ref b11), .val (.int pp), .unset] [(.ref b43)])) t → Steps p.tables e below G0 t := fun t kt => K42 t (st43 _ kt)
        have ne_b11_b43 : b11 ≠ b43 := Nat.ne_of_lt (Nat.lt_of_lt_of_le (VL38).lt (Nat.le_of_eq g43.symm))
        have VL43 : Arv Z h43 b43 k43 .char (9 : Int32) [(.int (0 : Int32)), (.int (0 : Int32)), (.int (0 : Int32)), (.int (0 : Int32)), (.int (0 : Int32)), (.int (0 : Int32)), (.int (0 : Int32)), (.int (0 : Int32)), (.int (0 : Int32))] (.int (0 : Int32)) := V43.pad (pad_rep [] (.int (0 : Int32)) 9)
        have K44 : ∀ t, Steps p.tables e below (T43.setTop (mkF m 132 #[.val (.int p0), .val (.int p1), .val (.int p2), .val (.int p3), .val (.int p4), .val (.int (1 : Int32)), .val (.int cx), .val (.int cy), .val (.int cz), .unset, .unset, .val (.ref b11), .val (.int pp), .unset] [(.int (116 : Int32)), (.int (0 : Int32)), (.ref b43), (.ref b43)])) t → Steps p.tables e below G0 t := by
          intro t kt
          refine K43 t ?_
          refine XS.dup X43.here hx rfl (hb hby at_128) rfl rfl ?_
          show Steps p.tables e below (T43.setTop (mkF m 129 #[.val (.int p0), .val (.int p1), .val (.int p2), .val (.int p3), .val (.int p4), .val (.int (1 : Int32)), .val (.int cx), .val (.int cy), .val (.int cz), .unset, .unset, .val (.ref b11), .val (.int pp), .unset] [(.ref b43), (.ref b43)])) _
          refine XS.iconst X43.here hx rfl (hb hby at_129) ?_
          show Steps p.tables e below (T43.setTop (mkF m 130 #[.val (.int p0), .val (.int p1), .val (.int p2), .val (.int p3), .val (.int p4), .val (.int (1 : Int32)), .val (.int cx), .val (.int cy), .val (.int cz), .unset, .unset, .val (.ref b11), .val (.int pp), .unset] [(.int (0 : Int32)), (.ref b43), (.ref b43)])) _
          refine XS.bipush X43.here hx rfl (hb hby at_130) ?_
          show Steps p.tables e below (T43.setTop (mkF m 132 #[.val (.int p0), .val (.int p1), .val (.int p2), .val (.int p3), .val (.int p4), .val (.int (1 : Int32)), .val (.int cx), .val (.int cy), .val (.int cz), .unset, .unset, .val (.ref b11), .val (.int pp), .unset] [(.int (116 : Int32)), (.int (0 : Int32)), (.ref b43), (.ref b43)])) _
          exact kt
        obtain ⟨cl45, Ar45, qq45, S45, M45, H45, GG45⟩ := id VL43
        have hin45 : ¬ ((0 : Int32) < 0 ∨ cl45.slots.size ≤ ((0 : Int32)).toNatClampNeg) := inb_of S45 ⟨by decide, by decide⟩
        obtain ⟨T46, h46, X46, e46, W46, st46⟩ := stC X43 hx hZ e43 Ar45 (j := (0 : Int32)) hin45 (g := (mkF m 132 #[.val (.int p0), .val (.int p1), .val (.int p2), .val (.int p3), .val (.int p4), .val (.int (1 : Int32)), .val (.int cx), .val (.int cy), .val (.int cz), .unset, .unset, .val (.ref b11), .val (.int pp), .unset] [(.int (116 : Int32)), (.int (0 : Int32)), (.ref b43), (.ref b43)])) rfl rfl (hb hby at_132)
        have K46 : ∀ t, Steps p.tables e below (T46.setTop (mkF m 133 #[.val (.int p0), .val (.int p1), .val (.int p2), .val (.int p3), .val (.int p4), .val (.int (1 : Int32)), .val (.int cx), .val (.int cy), .val (.int cz), .unset, .unset, .val (.ref b11), .val (.int pp), .unset] [(.ref b43)])) t → Steps p.tables e below G0 t := fun t kt => K44 t (st46 _ kt)
        have Z46 : n0 ≤ h46.size := Nat.le_trans Z43 (Keep.of_wr W46).1
        have VL46 : Arv Z h46 b43 k43 .char (9 : Int32) [(.int (nar .char (116 : Int32))), (.int (0 : Int32)), (.int (0 : Int32)), (.int (0 : Int32)), (.int (0 : Int32)), (.int (0 : Int32)), (.int (0 : Int32)), (.int (0 : Int32)), (.int (0 : Int32))] (.int (0 : Int32)) := Arv.set Ar45 qq45 S45 M45 H45 GG45 (fits_nar_char _) W46 0 rfl (Nat.le_of_ble_eq_true rfl)
        have N46 := Fr.snoc X46 N38 gn43
        have K47 : ∀ t, Steps p.tables e below (T46.setTop (mkF m 137 #[.val (.int p0), .val (.int p1), .val (.int p2), .val (.int p3), .val (.int p4), .val (.int (1 : Int32)), .val (.int cx), .val (.int cy), .val (.int cz), .unset, .unset, .val (.ref b11), .val (.int pp), .unset] [(.int (101 : Int32)), (.int (1 : Int32)), (.ref b43), (.ref b43)])) t → Steps p.tables e below G0 t := by
          intro t kt
          refine K46 t ?_
          refine XS.dup X46.here hx rfl (hb hby at_133) rfl rfl ?_
          show Steps p.tables e below (T46.setTop (mkF m 134 #[.val (.int p0), .val (.int p1), .val (.int p2), .val (.int p3), .val (.int p4), .val (.int (1 : Int32)), .val (.int cx), .val (.int cy), .val (.int cz), .unset, .unset, .val (.ref b11), .val (.int pp), .unset] [(.ref b43), (.ref b43)])) _
          refine XS.iconst X46.here hx rfl (hb hby at_134) ?_
          show Steps p.tables e below (T46.setTop (mkF m 135 #[.val (.int p0), .val (.int p1), .val (.int p2), .val (.int p3), .val (.int p4), .val (.int (1 : Int32)), .val (.int cx), .val (.int cy), .val (.int cz), .unset, .unset, .val (.ref b11), .val (.int pp), .unset] [(.int (1 : Int32)), (.ref b43), (.ref b43)])) _
          refine XS.bipush X46.here hx rfl (hb hby at_135) ?_
          show Steps p.tables e below (T46.setTop (mkF m 137 #[.val (.int p0), .val (.int p1), .val (.int p2), .val (.int p3), .val (.int p4), .val (.int (1 : Int32)), .val (.int cx), .val (.int cy), .val (.int cz), .unset, .unset, .val (.ref b11), .val (.int pp), .unset] [(.int (101 : Int32)), (.int (1 : Int32)), (.ref b43), (.ref b43)])) _
          exact kt
        obtain ⟨cl48, Ar48, qq48, S48, M48, H48, GG48⟩ := id VL46
        have hin48 : ¬ ((1 : Int32) < 0 ∨ cl48.slots.size ≤ ((1 : Int32)).toNatClampNeg) := inb_of S48 ⟨by decide, by decide⟩
        obtain ⟨T49, h49, X49, e49, W49, st49⟩ := stC X46 hx hZ e46 Ar48 (j := (1 : Int32)) hin48 (g := (mkF m 137 #[.val (.int p0), .val (.int p1), .val (.int p2), .val (.int p3), .val (.int p4), .val (.int (1 : Int32)), .val (.int cx), .val (.int cy), .val (.int cz), .unset, .unset, .val (.ref b11), .val (.int pp), .unset] [(.int (101 : Int32)), (.int (1 : Int32)), (.ref b43), (.ref b43)])) rfl rfl (hb hby at_137)
        have K49 : ∀ t, Steps p.tables e below (T49.setTop (mkF m 138 #[.val (.int p0), .val (.int p1), .val (.int p2), .val (.int p3), .val (.int p4), .val (.int (1 : Int32)), .val (.int cx), .val (.int cy), .val (.int cz), .unset, .unset, .val (.ref b11), .val (.int pp), .unset] [(.ref b43)])) t → Steps p.tables e below G0 t := fun t kt => K47 t (st49 _ kt)
        have Z49 : n0 ≤ h49.size := Nat.le_trans Z46 (Keep.of_wr W49).1
        have VL49 : Arv Z h49 b43 k43 .char (9 : Int32) [(.int (nar .char (116 : Int32))), (.int (nar .char (101 : Int32))), (.int (0 : Int32)), (.int (0 : Int32)), (.int (0 : Int32)), (.int (0 : Int32)), (.int (0 : Int32)), (.int (0 : Int32)), (.int (0 : Int32))] (.int (0 : Int32)) := Arv.set Ar48 qq48 S48 M48 H48 GG48 (fits_nar_char _) W49 1 rfl (Nat.le_of_ble_eq_true rfl)
        have N49 := Fr.snoc X49 N46 gn43
        have K50 : ∀ t, Steps p.tables e below (T49.setTop (mkF m 142 #[.val (.int p0), .val (.int p1), .val (.int p2), .val (.int p3), .val (.int p4), .val (.int (1 : Int32)), .val (.int cx), .val (.int cy), .val (.int cz), .unset, .unset, .val (.ref b11), .val (.int pp), .unset] [(.int (120 : Int32)), (.int (2 : Int32)), (.ref b43), (.ref b43)])) t → Steps p.tables e below G0 t := by
          intro t kt
          refine K49 t ?_
          refine XS.dup X49.here hx rfl (hb hby at_138) rfl rfl ?_
          show Steps p.tables e below (T49.setTop (mkF m 139 #[.val (.int p0), .val (.int p1), .val (.int p2), .val (.int p3), .val (.int p4), .val (.int (1 : Int32)), .val (.int cx), .val (.int cy), .val (.int cz), .unset, .unset, .val (.ref b11), .val (.int pp), .unset] [(.ref b43), (.ref b43)])) _
          refine XS.iconst X49.here hx rfl (hb hby at_139) ?_
          show Steps p.tables e below (T49.setTop (mkF m 140 #[.val (.int p0), .val (.int p1), .val (.int p2), .val (.int p3), .val (.int p4), .val (.int (1 : Int32)), .val (.int cx), .val (.int cy), .val (.int cz), .unset, .unset, .val (.ref b11), .val (.int pp), .unset] [(.int (2 : Int32)), (.ref b43), (.ref b43)])) _
          refine XS.bipush X49.here hx rfl (hb hby at_140) ?_
          show Steps p.tables e below (T49.setTop (mkF m 142 #[.val (.int p0), .val (.int p1), .val (.int p2), .val (.int p3), .val (.int p4), .val (.int (1 : Int32)), .val (.int cx), .val (.int cy), .val (.int cz), .unset, .unset, .val (.ref b11), .val (.int pp), .unset] [(.int (120 : Int32)), (.int (2 : Int32)), (.ref b43), (.ref b43)])) _
          exact kt
        obtain ⟨cl51, Ar51, qq51, S51, M51, H51, GG51⟩ := id VL49
        have hin51 : ¬ ((2 : Int32) < 0 ∨ cl51.slots.size ≤ ((2 : Int32)).toNatClampNeg) := inb_of S51 ⟨by decide, by decide⟩
        obtain ⟨T52, h52, X52, e52, W52, st52⟩ := stC X49 hx hZ e49 Ar51 (j := (2 : Int32)) hin51 (g := (mkF m 142 #[.val (.int p0), .val (.int p1), .val (.int p2), .val (.int p3), .val (.int p4), .val (.int (1 : Int32)), .val (.int cx), .val (.int cy), .val (.int cz), .unset, .unset, .val (.ref b11), .val (.int pp), .unset] [(.int (120 : Int32)), (.int (2 : Int32)), (.ref b43), (.ref b43)])) rfl rfl (hb hby at_142)
        have K52 : ∀ t, Steps p.tables e below (T52.setTop (mkF m 143 #[.val (.int p0), .val (.int p1), .val (.int p2), .val (.int p3), .val (.int p4), .val (.int (1 : Int32)), .val (.int cx), .val (.int cy), .val (.int cz), .unset, .unset, .val (.ref b11), .val (.int pp), .unset] [(.ref b43)])) t → Steps p.tables e below G0 t := fun t kt => K50 t (st52 _ kt)
        have Z52 : n0 ≤ h52.size := Nat.le_trans Z49 (Keep.of_wr W52).1
        have VL52 : Arv Z h52 b43 k43 .char (9 : Int32) [(.int (nar .char (116 : Int32))), (.int (nar .char (101 : Int32))), (.int (nar .char (120 : Int32))), (.int (0 : Int32)), (.int (0 : Int32)), (.int (0 : Int32)), (.int (0 : Int32)), (.int (0 : Int32)), (.int (0 : Int32))] (.int (0 : Int32)) := Arv.set Ar51 qq51 S51 M51 H51 GG51 (fits_nar_char _) W52 2 rfl (Nat.le_of_ble_eq_true rfl)
        have N52 := Fr.snoc X52 N49 gn43
        have K53 : ∀ t, Steps p.tables e below (T52.setTop (mkF m 147 #[.val (.int p0), .val (.int p1), .val (.int p2), .val (.int p3), .val (.int p4), .val (.int (1 : Int32)), .val (.int cx), .val (.int cy), .val (.int cz), .unset, .unset, .val (.ref b11), .val (.int pp), .unset] [(.int (116 : Int32)), (.int (3 : Int32)), (.ref b43), (.ref b43)])) t → Steps p.tables e below G0 t := by
          intro t kt
          refine K52 t ?_
          refine XS.dup X52.here hx rfl (hb hby at_143) rfl rfl ?_
          show Steps p.tables e below (T52.setTop (mkF m 144 #[.val (.int p0), .val (.int p1), .val (.int p2), .val (.int p3), .val (.int p4), .val (.int (1 : Int32)), .val (.int cx), .val (.int cy), .val (.int cz), .unset, .unset, .val (.ref b11), .val (.int pp), .unset] [(.ref b43), (.ref b43)])) _
          refine XS.iconst X52.here hx rfl (hb hby at_144) ?_
          show Steps p.tables e below (T52.setTop (mkF m 145 #[.val (.int p0), .val (.int p1), .val (.int p2), .val (.int p3), .val (.int p4), .val (.int (1 : Int32)), .val (.int cx), .val (.int cy), .val (.int cz), .unset, .unset, .val (.ref b11), .val (.int pp), .unset] [(.int (3 : Int32)), (.ref b43), (.ref b43)])) _
          refine XS.bipush X52.here hx rfl (hb hby at_145) ?_
          show Steps p.tables e below (T52.setTop (mkF m 147 #[.val (.int p0), .val (.int p1), .val (.int p2), .val (.int p3), .val (.int p4), .val (.int (1 : Int32)), .val (.int cx), .val (.int cy), .val (.int cz), .unset, .unset, .val (.ref b11), .val (.int pp), .unset] [(.int (116 : Int32)), (.int (3 : Int32)), (.ref b43), (.ref b43)])) _
          exact kt
        obtain ⟨cl54, Ar54, qq54, S54, M54, H54, GG54⟩ := id VL52
        have hin54 : ¬ ((3 : Int32) < 0 ∨ cl54.slots.size ≤ ((3 : Int32)).toNatClampNeg) := inb_of S54 ⟨by decide, by decide⟩
        obtain ⟨T55, h55, X55, e55, W55, st55⟩ := stC X52 hx hZ e52 Ar54 (j := (3 : Int32)) hin54 (g := (mkF m 147 #[.val (.int p0), .val (.int p1), .val (.int p2), .val (.int p3), .val (.int p4), .val (.int (1 : Int32)), .val (.int cx), .val (.int cy), .val (.int cz), .unset, .unset, .val (.ref b11), .val (.int pp), .unset] [(.int (116 : Int32)), (.int (3 : Int32)), (.ref b43), (.ref b43)])) rfl rfl (hb hby at_147)
        have K55 : ∀ t, Steps p.tables e below (T55.setTop (mkF m 148 #[.val (.int p0), .val (.int p1), .val (.int p2), .val (.int p3), .val (.int p4), .val (.int (1 : Int32)), .val (.int cx), .val (.int cy), .val (.int cz), .unset, .unset, .val (.ref b11), .val (.int pp), .unset] [(.ref b43)])) t → Steps p.tables e below G0 t := fun t kt => K53 t (st55 _ kt)
        have Z55 : n0 ≤ h55.size := Nat.le_trans Z52 (Keep.of_wr W55).1
        have VL55 : Arv Z h55 b43 k43 .char (9 : Int32) [(.int (nar .char (116 : Int32))), (.int (nar .char (101 : Int32))), (.int (nar .char (120 : Int32))), (.int (nar .char (116 : Int32))), (.int (0 : Int32)), (.int (0 : Int32)), (.int (0 : Int32)), (.int (0 : Int32)), (.int (0 : Int32))] (.int (0 : Int32)) := Arv.set Ar54 qq54 S54 M54 H54 GG54 (fits_nar_char _) W55 3 rfl (Nat.le_of_ble_eq_true rfl)
        have N55 := Fr.snoc X55 N52 gn43
        have K56 : ∀ t, Steps p.tables e below (T55.setTop (mkF m 152 #[.val (.int p0), .val (.int p1), .val (.int p2), .val (.int p3), .val (.int p4), .val (.int (1 : Int32)), .val (.int cx), .val (.int cy), .val (.int cz), .unset, .unset, .val (.ref b11), .val (.int pp), .unset] [(.int (47 : Int32)), (.int (4 : Int32)), (.ref b43), (.ref b43)])) t → Steps p.tables e below G0 t := by
          intro t kt
          refine K55 t ?_
          refine XS.dup X55.here hx rfl (hb hby at_148) rfl rfl ?_
          show Steps p.tables e below (T55.setTop (mkF m 149 #[.val (.int p0), .val (.int p1), .val (.int p2), .val (.int p3), .val (.int p4), .val (.int (1 : Int32)), .val (.int cx), .val (.int cy), .val (.int cz), .unset, .unset, .val (.ref b11), .val (.int pp), .unset] [(.ref b43), (.ref b43)])) _
          refine XS.iconst X55.here hx rfl (hb hby at_149) ?_
          show Steps p.tables e below (T55.setTop (mkF m 150 #[.val (.int p0), .val (.int p1), .val (.int p2), .val (.int p3), .val (.int p4), .val (.int (1 : Int32)), .val (.int cx), .val (.int cy), .val (.int cz), .unset, .unset, .val (.ref b11), .val (.int pp), .unset] [(.int (4 : Int32)), (.ref b43), (.ref b43)])) _
          refine XS.bipush X55.here hx rfl (hb hby at_150) ?_
          show Steps p.tables e below (T55.setTop (mkF m 152 #[.val (.int p0), .val (.int p1), .val (.int p2), .val (.int p3), .val (.int p4), .val (.int (1 : Int32)), .val (.int cx), .val (.int cy), .val (.int cz), .unset, .unset, .val (.ref b11), .val (.int pp), .unset] [(.int (47 : Int32)), (.int (4 : Int32)), (.ref b43), (.ref b43)])) _
          exact kt
        obtain ⟨cl57, Ar57, qq57, S57, M57, H57, GG57⟩ := id VL55
        have hin57 : ¬ ((4 : Int32) < 0 ∨ cl57.slots.size ≤ ((4 : Int32)).toNatClampNeg) := inb_of S57 ⟨by decide, by decide⟩
        obtain ⟨T58, h58, X58, e58, W58, st58⟩ := stC X55 hx hZ e55 Ar57 (j := (4 : Int32)) hin57 (g := (mkF m 152 #[.val (.int p0), .val (.int p1), .val (.int p2), .val (.int p3), .val (.int p4), .val (.int (1 : Int32)), .val (.int cx), .val (.int cy), .val (.int cz), .unset, .unset, .val (.ref b11), .val (.int pp), .unset] [(.int (47 : Int32)), (.int (4 : Int32)), (.ref b43), (.ref b43)])) rfl rfl (hb hby at_152)
        have K58 : ∀ t, Steps p.tables e below (T58.setTop (mkF m 153 #[.val (.int p0), .val (.int p1), .val (.int p2), .val (.int p3), .val (.int p4), .val (.int (1 : Int32)), .val (.int cx), .val (.int cy), .val (.int cz), .unset, .unset, .val (.ref b11), .val (.int pp), .unset] [(.ref b43)])) t → Steps p.tables e below G0 t := fun t kt => K56 t (st58 _ kt)
        have Z58 : n0 ≤ h58.size := Nat.le_trans Z55 (Keep.of_wr W58).1
        have VL58 : Arv Z h58 b43 k43 .char (9 : Int32) [(.int (nar .char (116 : Int32))), (.int (nar .char (101 : Int32))), (.int (nar .char (120 : Int32))), (.int (nar .char (116 : Int32))), (.int (nar .char (47 : Int32))), (.int (0 : Int32)), (.int (0 : Int32)), (.int (0 : Int32)), (.int (0 : Int32))] (.int (0 : Int32)) := Arv.set Ar57 qq57 S57 M57 H57 GG57 (fits_nar_char _) W58 4 rfl (Nat.le_of_ble_eq_true rfl)
        have N58 := Fr.snoc X58 N55 gn43
        have K59 : ∀ t, Steps p.tables e below (T58.setTop (mkF m 157 #[.val (.int p0), .val (.int p1), .val (.int p2), .val (.int p3), .val (.int p4), .val (.int (1 : Int32)), .val (.int cx), .val (.int cy), .val (.int cz), .unset, .unset, .val (.ref b11), .val (.int pp), .unset] [(.int (104 : Int32)), (.int (5 : Int32)), (.ref b43), (.ref b43)])) t → Steps p.tables e below G0 t := by
          intro t kt
          refine K58 t ?_
          refine XS.dup X58.here hx rfl (hb hby at_153) rfl rfl ?_
          show Steps p.tables e below (T58.setTop (mkF m 154 #[.val (.int p0), .val (.int p1), .val (.int p2), .val (.int p3), .val (.int p4), .val (.int (1 : Int32)), .val (.int cx), .val (.int cy), .val (.int cz), .unset, .unset, .val (.ref b11), .val (.int pp), .unset] [(.ref b43), (.ref b43)])) _
          refine XS.iconst X58.here hx rfl (hb hby at_154) ?_
          show Steps p.tables e below (T58.setTop (mkF m 155 #[.val (.int p0), .val (.int p1), .val (.int p2), .val (.int p3), .val (.int p4), .val (.int (1 : Int32)), .val (.int cx), .val (.int cy), .val (.int cz), .unset, .unset, .val (.ref b11), .val (.int pp), .unset] [(.int (5 : Int32)), (.ref b43), (.ref b43)])) _
          refine XS.bipush X58.here hx rfl (hb hby at_155) ?_
          show Steps p.tables e below (T58.setTop (mkF m 157 #[.val (.int p0), .val (.int p1), .val (.int p2), .val (.int p3), .val (.int p4), .val (.int (1 : Int32)), .val (.int cx), .val (.int cy), .val (.int cz), .unset, .unset, .val (.ref b11), .val (.int pp), .unset] [(.int (104 : Int32)), (.int (5 : Int32)), (.ref b43), (.ref b43)])) _
          exact kt
        obtain ⟨cl60, Ar60, qq60, S60, M60, H60, GG60⟩ := id VL58
        have hin60 : ¬ ((5 : Int32) < 0 ∨ cl60.slots.size ≤ ((5 : Int32)).toNatClampNeg) := inb_of S60 ⟨by decide, by decide⟩
        obtain ⟨T61, h61, X61, e61, W61, st61⟩ := stC X58 hx hZ e58 Ar60 (j := (5 : Int32)) hin60 (g := (mkF m 157 #[.val (.int p0), .val (.int p1), .val (.int p2), .val (.int p3), .val (.int p4), .val (.int (1 : Int32)), .val (.int cx), .val (.int cy), .val (.int cz), .unset, .unset, .val (.ref b11), .val (.int pp), .unset] [(.int (104 : Int32)), (.int (5 : Int32)), (.ref b43), (.ref b43)])) rfl rfl (hb hby at_157)
        have K61 : ∀ t, Steps p.tables e below (T61.setTop (mkF m 158 #[.val (.int p0), .val (.int p1), .val (.int p2), .val (.int p3), .val (.int p4), .val (.int (1 : Int32)), .val (.int cx), .val (.int cy), .val (.int cz), .unset, .unset, .val (.ref b11), .val (.int pp), .unset] [(.ref b43)])) t → Steps p.tables e below G0 t := fun t kt => K59 t (st61 _ kt)
        have Z61 : n0 ≤ h61.size := Nat.le_trans Z58 (Keep.of_wr W61).1
        have VL61 : Arv Z h61 b43 k43 .char (9 : Int32) [(.int (nar .char (116 : Int32))), (.int (nar .char (101 : Int32))), (.int (nar .char (120 : Int32))), (.int (nar .char (116 : Int32))), (.int (nar .char (47 : Int32))), (.int (nar .char (104 : Int32))), (.int (0 : Int32)), (.int (0 : Int32)), (.int (0 : Int32))] (.int (0 : Int32)) := Arv.set Ar60 qq60 S60 M60 H60 GG60 (fits_nar_char _) W61 5 rfl (Nat.le_of_ble_eq_true rfl)
        have N61 := Fr.snoc X61 N58 gn43
        have K62 : ∀ t, Steps p.tables e below (T61.setTop (mkF m 163 #[.val (.int p0), .val (.int p1), .val (.int p2), .val (.int p3), .val (.int p4), .val (.int (1 : Int32)), .val (.int cx), .val (.int cy), .val (.int cz), .unset, .unset, .val (.ref b11), .val (.int pp), .unset] [(.int (116 : Int32)), (.int (6 : Int32)), (.ref b43), (.ref b43)])) t → Steps p.tables e below G0 t := by
          intro t kt
          refine K61 t ?_
          refine XS.dup X61.here hx rfl (hb hby at_158) rfl rfl ?_
          show Steps p.tables e below (T61.setTop (mkF m 159 #[.val (.int p0), .val (.int p1), .val (.int p2), .val (.int p3), .val (.int p4), .val (.int (1 : Int32)), .val (.int cx), .val (.int cy), .val (.int cz), .unset, .unset, .val (.ref b11), .val (.int pp), .unset] [(.ref b43), (.ref b43)])) _
          refine XS.bipush X61.here hx rfl (hb hby at_159) ?_
          show Steps p.tables e below (T61.setTop (mkF m 161 #[.val (.int p0), .val (.int p1), .val (.int p2), .val (.int p3), .val (.int p4), .val (.int (1 : Int32)), .val (.int cx), .val (.int cy), .val (.int cz), .unset, .unset, .val (.ref b11), .val (.int pp), .unset] [(.int (6 : Int32)), (.ref b43), (.ref b43)])) _
          refine XS.bipush X61.here hx rfl (hb hby at_161) ?_
          show Steps p.tables e below (T61.setTop (mkF m 163 #[.val (.int p0), .val (.int p1), .val (.int p2), .val (.int p3), .val (.int p4), .val (.int (1 : Int32)), .val (.int cx), .val (.int cy), .val (.int cz), .unset, .unset, .val (.ref b11), .val (.int pp), .unset] [(.int (116 : Int32)), (.int (6 : Int32)), (.ref b43), (.ref b43)])) _
          exact kt
        obtain ⟨cl63, Ar63, qq63, S63, M63, H63, GG63⟩ := id VL61
        have hin63 : ¬ ((6 : Int32) < 0 ∨ cl63.slots.size ≤ ((6 : Int32)).toNatClampNeg) := inb_of S63 ⟨by decide, by decide⟩
        obtain ⟨T64, h64, X64, e64, W64, st64⟩ := stC X61 hx hZ e61 Ar63 (j := (6 : Int32)) hin63 (g := (mkF m 163 #[.val (.int p0), .val (.int p1), .val (.int p2), .val (.int p3), .val (.int p4), .val (.int (1 : Int32)), .val (.int cx), .val (.int cy), .val (.int cz), .unset, .unset, .val (.ref b11), .val (.int pp), .unset] [(.int (116 : Int32)), (.int (6 : Int32)), (.ref b43), (.ref b43)])) rfl rfl (hb hby at_163)
        have K64 : ∀ t, Steps p.tables e below (T64.setTop (mkF m 164 #[.val (.int p0), .val (.int p1), .val (.int p2), .val (.int p3), .val (.int p4), .val (.int (1 : Int32)), .val (.int cx), .val (.int cy), .val (.int cz), .unset, .unset, .val (.ref b11), .val (.int pp), .unset] [(.ref b43)])) t → Steps p.tables e below G0 t := fun t kt => K62 t (st64 _ kt)
        have Z64 : n0 ≤ h64.size := Nat.le_trans Z61 (Keep.of_wr W64).1
        have VL64 : Arv Z h64 b43 k43 .char (9 : Int32) [(.int (nar .char (116 : Int32))), (.int (nar .char (101 : Int32))), (.int (nar .char (120 : Int32))), (.int (nar .char (116 : Int32))), (.int (nar .char (47 : Int32))), (.int (nar .char (104 : Int32))), (.int (nar .char (116 : Int32))), (.int (0 : Int32)), (.int (0 : Int32))] (.int (0 : Int32)) := Arv.set Ar63 qq63 S63 M63 H63 GG63 (fits_nar_char _) W64 6 rfl (Nat.le_of_ble_eq_true rfl)
        have N64 := Fr.snoc X64 N61 gn43
        have K65 : ∀ t, Steps p.tables e below (T64.setTop (mkF m 169 #[.val (.int p0), .val (.int p1), .val (.int p2), .val (.int p3), .val (.int p4), .val (.int (1 : Int32)), .val (.int cx), .val (.int cy), .val (.int cz), .unset, .unset, .val (.ref b11), .val (.int pp), .unset] [(.int (109 : Int32)), (.int (7 : Int32)), (.ref b43), (.ref b43)])) t → Steps p.tables e below G0 t := by
          intro t kt
          refine K64 t ?_
          refine XS.dup X64.here hx rfl (hb hby at_164) rfl rfl ?_
          show Steps p.tables e below (T64.setTop (mkF m 165 #[.val (.int p0), .val (.int p1), .val (.int p2), .val (.int p3), .val (.int p4), .val (.int (1 : Int32)), .val (.int cx), .val (.int cy), .val (.int cz), .unset, .unset, .val (.ref b11), .val (.int pp), .unset] [(.ref b43), (.ref b43)])) _
          refine XS.bipush X64.here hx rfl (hb hby at_165) ?_
          show Steps p.tables e below (T64.setTop (mkF m 167 #[.val (.int p0), .val (.int p1), .val (.int p2), .val (.int p3), .val (.int p4), .val (.int (1 : Int32)), .val (.int cx), .val (.int cy), .val (.int cz), .unset, .unset, .val (.ref b11), .val (.int pp), .unset] [(.int (7 : Int32)), (.ref b43), (.ref b43)])) _
          refine XS.bipush X64.here hx rfl (hb hby at_167) ?_
          show Steps p.tables e below (T64.setTop (mkF m 169 #[.val (.int p0), .val (.int p1), .val (.int p2), .val (.int p3), .val (.int p4), .val (.int (1 : Int32)), .val (.int cx), .val (.int cy), .val (.int cz), .unset, .unset, .val (.ref b11), .val (.int pp), .unset] [(.int (109 : Int32)), (.int (7 : Int32)), (.ref b43), (.ref b43)])) _
          exact kt
        obtain ⟨cl66, Ar66, qq66, S66, M66, H66, GG66⟩ := id VL64
        have hin66 : ¬ ((7 : Int32) < 0 ∨ cl66.slots.size ≤ ((7 : Int32)).toNatClampNeg) := inb_of S66 ⟨by decide, by decide⟩
        obtain ⟨T67, h67, X67, e67, W67, st67⟩ := stC X64 hx hZ e64 Ar66 (j := (7 : Int32)) hin66 (g := (mkF m 169 #[.val (.int p0), .val (.int p1), .val (.int p2), .val (.int p3), .val (.int p4), .val (.int (1 : Int32)), .val (.int cx), .val (.int cy), .val (.int cz), .unset, .unset, .val (.ref b11), .val (.int pp), .unset] [(.int (109 : Int32)), (.int (7 : Int32)), (.ref b43), (.ref b43)])) rfl rfl (hb hby at_169)
        have K67 : ∀ t, Steps p.tables e below (T67.setTop (mkF m 170 #[.val (.int p0), .val (.int p1), .val (.int p2), .val (.int p3), .val (.int p4), .val (.int (1 : Int32)), .val (.int cx), .val (.int cy), .val (.int cz), .unset, .unset, .val (.ref b11), .val (.int pp), .unset] [(.ref b43)])) t → Steps p.tables e below G0 t := fun t kt => K65 t (st67 _ kt)
        have Z67 : n0 ≤ h67.size := Nat.le_trans Z64 (Keep.of_wr W67).1
        have VL67 : Arv Z h67 b43 k43 .char (9 : Int32) [(.int (nar .char (116 : Int32))), (.int (nar .char (101 : Int32))), (.int (nar .char (120 : Int32))), (.int (nar .char (116 : Int32))), (.int (nar .char (47 : Int32))), (.int (nar .char (104 : Int32))), (.int (nar .char (116 : Int32))), (.int (nar .char (109 : Int32))), (.int (0 : Int32))] (.int (0 : Int32)) := Arv.set Ar66 qq66 S66 M66 H66 GG66 (fits_nar_char _) W67 7 rfl (Nat.le_of_ble_eq_true rfl)
        have N67 := Fr.snoc X67 N64 gn43
        have K68 : ∀ t, Steps p.tables e below (T67.setTop (mkF m 175 #[.val (.int p0), .val (.int p1), .val (.int p2), .val (.int p3), .val (.int p4), .val (.int (1 : Int32)), .val (.int cx), .val (.int cy), .val (.int cz), .unset, .unset, .val (.ref b11), .val (.int pp), .unset] [(.int (108 : Int32)), (.int (8 : Int32)), (.ref b43), (.ref b43)])) t → Steps p.tables e below G0 t := by
          intro t kt
          refine K67 t ?_
          refine XS.dup X67.here hx rfl (hb hby at_170) rfl rfl ?_
          show Steps p.tables e below (T67.setTop (mkF m 171 #[.val (.int p0), .val (.int p1), .val (.int p2), .val (.int p3), .val (.int p4), .val (.int (1 : Int32)), .val (.int cx), .val (.int cy), .val (.int cz), .unset, .unset, .val (.ref b11), .val (.int pp), .unset] [(.ref b43), (.ref b43)])) _
          refine XS.bipush X67.here hx rfl (hb hby at_171) ?_
          show Steps p.tables e below (T67.setTop (mkF m 173 #[.val (.int p0), .val (.int p1), .val (.int p2), .val (.int p3), .val (.int p4), .val (.int (1 : Int32)), .val (.int cx), .val (.int cy), .val (.int cz), .unset, .unset, .val (.ref b11), .val (.int pp), .unset] [(.int (8 : Int32)), (.ref b43), (.ref b43)])) _
          refine XS.bipush X67.here hx rfl (hb hby at_173) ?_
          show Steps p.tables e below (T67.setTop (mkF m 175 #[.val (.int p0), .val (.int p1), .val (.int p2), .val (.int p3), .val (.int p4), .val (.int (1 : Int32)), .val (.int cx), .val (.int cy), .val (.int cz), .unset, .unset, .val (.ref b11), .val (.int pp), .unset] [(.int (108 : Int32)), (.int (8 : Int32)), (.ref b43), (.ref b43)])) _
          exact kt
        obtain ⟨cl69, Ar69, qq69, S69, M69, H69, GG69⟩ := id VL67
        have hin69 : ¬ ((8 : Int32) < 0 ∨ cl69.slots.size ≤ ((8 : Int32)).toNatClampNeg) := inb_of S69 ⟨by decide, by decide⟩
        obtain ⟨T70, h70, X70, e70, W70, st70⟩ := stC X67 hx hZ e67 Ar69 (j := (8 : Int32)) hin69 (g := (mkF m 175 #[.val (.int p0), .val (.int p1), .val (.int p2), .val (.int p3), .val (.int p4), .val (.int (1 : Int32)), .val (.int cx), .val (.int cy), .val (.int cz), .unset, .unset, .val (.ref b11), .val (.int pp), .unset] [(.int (108 : Int32)), (.int (8 : Int32)), (.ref b43), (.ref b43)])) rfl rfl (hb hby at_175)
        have K70 : ∀ t, Steps p.tables e below (T70.setTop (mkF m 176 #[.val (.int p0), .val (.int p1), .val (.int p2), .val (.int p3), .val (.int p4), .val (.int (1 : Int32)), .val (.int cx), .val (.int cy), .val (.int cz), .unset, .unset, .val (.ref b11), .val (.int pp), .unset] [(.ref b43)])) t → Steps p.tables e below G0 t := fun t kt => K68 t (st70 _ kt)
        have Z70 : n0 ≤ h70.size := Nat.le_trans Z67 (Keep.of_wr W70).1
        have VL70 : Arv Z h70 b43 k43 .char (9 : Int32) [(.int (nar .char (116 : Int32))), (.int (nar .char (101 : Int32))), (.int (nar .char (120 : Int32))), (.int (nar .char (116 : Int32))), (.int (nar .char (47 : Int32))), (.int (nar .char (104 : Int32))), (.int (nar .char (116 : Int32))), (.int (nar .char (109 : Int32))), (.int (nar .char (108 : Int32)))] (.int (0 : Int32)) := Arv.set Ar69 qq69 S69 M69 H69 GG69 (fits_nar_char _) W70 8 rfl (Nat.le_of_ble_eq_true rfl)
        have N70 := Fr.snoc X70 N67 gn43
        obtain ⟨pp0, pp9⟩ := own_p h_pp hc41
        have K71 : ∀ t, Steps p.tables e below (T70.setTop (mkF m 184 #[.val (.int p0), .val (.int p1), .val (.int p2), .val (.int p3), .val (.int p4), .val (.int (1 : Int32)), .val (.int cx), .val (.int cy), .val (.int cz), .unset, .unset, .val (.ref b11), .val (.int pp), .val (.ref b43)] [(.int cx), (.int pp), (.ref b43)])) t → Steps p.tables e below G0 t := by
          intro t kt
          refine K70 t ?_
          refine XS.astore X70.here hx rfl (hb hby at_176) rfl rfl (l' := #[.val (.int p0), .val (.int p1), .val (.int p2), .val (.int p3), .val (.int p4), .val (.int (1 : Int32)), .val (.int cx), .val (.int cy), .val (.int cz), .unset, .unset, .val (.ref b11), .val (.int pp), .val (.ref b43)]) rfl ?_
          show Steps p.tables e below (T70.setTop (mkF m 178 #[.val (.int p0), .val (.int p1), .val (.int p2), .val (.int p3), .val (.int p4), .val (.int (1 : Int32)), .val (.int cx), .val (.int cy), .val (.int cz), .unset, .unset, .val (.ref b11), .val (.int pp), .val (.ref b43)] [])) _
          refine XS.aload X70.here hx rfl (hb hby at_178) rfl rfl ?_
          show Steps p.tables e below (T70.setTop (mkF m 180 #[.val (.int p0), .val (.int p1), .val (.int p2), .val (.int p3), .val (.int p4), .val (.int (1 : Int32)), .val (.int cx), .val (.int cy), .val (.int cz), .unset, .unset, .val (.ref b11), .val (.int pp), .val (.ref b43)] [(.ref b43)])) _
          refine XS.iload X70.here hx rfl (hb hby at_180) rfl ?_
          show Steps p.tables e below (T70.setTop (mkF m 182 #[.val (.int p0), .val (.int p1), .val (.int p2), .val (.int p3), .val (.int p4), .val (.int (1 : Int32)), .val (.int cx), .val (.int cy), .val (.int cz), .unset, .unset, .val (.ref b11), .val (.int pp), .val (.ref b43)] [(.int pp), (.ref b43)])) _
          refine XS.iload X70.here hx rfl (hb hby at_182) rfl ?_
          show Steps p.tables e below (T70.setTop (mkF m 184 #[.val (.int p0), .val (.int p1), .val (.int p2), .val (.int p3), .val (.int p4), .val (.int (1 : Int32)), .val (.int cx), .val (.int cy), .val (.int cz), .unset, .unset, .val (.ref b11), .val (.int pp), .val (.ref b43)] [(.int cx), (.int pp), (.ref b43)])) _
          exact kt
        obtain ⟨cl72, Ar72, qq72, S72, M72, H72, GG72⟩ := id VL70
        have hin72 : ¬ (pp < 0 ∨ cl72.slots.size ≤ (pp).toNatClampNeg) := inb_of S72 ⟨pp0, hc41⟩
        obtain ⟨T73, h73, X73, e73, W73, st73⟩ := stC X70 hx hZ e70 Ar72 (j := pp) hin72 (g := (mkF m 184 #[.val (.int p0), .val (.int p1), .val (.int p2), .val (.int p3), .val (.int p4), .val (.int (1 : Int32)), .val (.int cx), .val (.int cy), .val (.int cz), .unset, .unset, .val (.ref b11), .val (.int pp), .val (.ref b43)] [(.int cx), (.int pp), (.ref b43)])) rfl rfl (hb hby at_184)
        have K73 : ∀ t, Steps p.tables e below (T73.setTop (mkF m 185 #[.val (.int p0), .val (.int p1), .val (.int p2), .val (.int p3), .val (.int p4), .val (.int (1 : Int32)), .val (.int cx), .val (.int cy), .val (.int cz), .unset, .unset, .val (.ref b11), .val (.int pp), .val (.ref b43)] [])) t → Steps p.tables e below G0 t := fun t kt => K71 t (st73 _ kt)
        have Z73 : n0 ≤ h73.size := Nat.le_trans Z70 (Keep.of_wr W73).1
        have VL73 : Arv Z h73 b43 k43 .char (9 : Int32) ((own_html.set pp.toNatClampNeg (nar .char cx)).map Value.int) (.int (0 : Int32)) := by
          rw [List.map_set]
          exact Arv.set Ar72 qq72 S72 M72 H72 GG72 (fits_nar_char _) W73 pp.toNatClampNeg rfl pp9
        have N73 := Fr.snoc X73 N70 gn43
        have f74 := (((((((((((VL38.ext E43).other W46 ne_b11_b43).other W49 ne_b11_b43).other W52 ne_b11_b43).other W55 ne_b11_b43).other W58 ne_b11_b43).other W61 ne_b11_b43).other W64 ne_b11_b43).other W67 ne_b11_b43).other W70 ne_b11_b43).other W73 ne_b11_b43)
        obtain ⟨T75, h75, X75, e75, E75, A75, D75, -, st75⟩ := newO X73 hx hZ hown (hw _ (List.mem_of_getElem? (i := 32) rfl)) (hw _ (List.mem_of_getElem? (i := 3) rfl)) (hw _ (List.mem_of_getElem? (i := 2) rfl)) e73 (g := (mkF m 185 #[.val (.int p0), .val (.int p1), .val (.int p2), .val (.int p3), .val (.int p4), .val (.int (1 : Int32)), .val (.int cx), .val (.int cy), .val (.int cz), .unset, .unset, .val (.ref b11), .val (.int pp), .val (.ref b43)] [])) rfl (hb hby at_185) (by decide) (by decide)
        obtain ⟨b75, g75⟩ : ∃ z, z = h73.size := ⟨_, rfl⟩
        rw [← g75] at A75 D75 st75
        have gn75 : n0 ≤ b75 := Nat.le_trans Z73 (Nat.le_of_eq g75.symm)
        have Z75 : n0 ≤ h75.size := Nat.le_trans Z73 E75.1
        have K75 : ∀ t, Steps p.tables e below (T75.setTop (mkF m 188 #[.val (.int p0), .val (.int p1), .val (.int p2), .val (.int p3), .val (.int p4), .val (.int (1 : Int32)), .val (.int cx), .val (.int cy), .val (.int cz), .unset, .unset, .val (.ref b11), .val (.int pp), .val (.ref b43)] [(.ref b75)])) t → Steps p.tables e below G0 t := fun t kt => K73 t (st75 _ kt)
        have ne_b11_b75 : b11 ≠ b75 := Nat.ne_of_lt (Nat.lt_of_lt_of_le (f74).lt (Nat.le_of_eq g75.symm))
        have ne_b43_b75 : b43 ≠ b75 := Nat.ne_of_lt (Nat.lt_of_lt_of_le (VL73).lt (Nat.le_of_eq g75.symm))
        have F_value_b75 := (D75 (Or.inr (hw _ (List.mem_of_getElem? (i := 5) rfl))) (ty := (.array .byte)) (by decide) : Fld Z h75 b75 "java/lang/String" "value" "[B" .null)
        have F_coder_b75 := (D75 (Or.inr (hw _ (List.mem_of_getElem? (i := 6) rfl))) (ty := .byte) (by decide) : Fld Z h75 b75 "java/lang/String" "coder" "B" (.int (0 : Int32)))
        have hlen : (own_html.set pp.toNatClampNeg (nar .char cx)).length = 9 := by rw [List.length_set]; rfl
        have hpc : ∀ c ∈ (own_html.set pp.toNatClampNeg (nar .char cx)), ¬ c < 0 ∧ ¬ (255 : Int32) < c := by
          intro c hc
          rcases List.mem_or_eq_of_mem_set hc with q | q
          · exact (by decide : ∀ c ∈ own_html, ¬ c < 0 ∧ ¬ (255 : Int32) < c) c q
          · rw [q]; exact b_cx
        have K76 : ∀ t, Steps p.tables e below (T75.setTop (mkF m 191 #[.val (.int p0), .val (.int p1), .val (.int p2), .val (.int p3), .val (.int p4), .val (.int (1 : Int32)), .val (.int cx), .val (.int cy), .val (.int cz), .unset, .unset, .val (.ref b11), .val (.int pp), .val (.ref b43)] [(.ref b43), (.ref b75), (.ref b75)])) t → Steps p.tables e below G0 t := by
          intro t kt
          refine K75 t ?_
          refine XS.dup X75.here hx rfl (hb hby at_188) rfl rfl ?_
          show Steps p.tables e below (T75.setTop (mkF m 189 #[.val (.int p0), .val (.int p1), .val (.int p2), .val (.int p3), .val (.int p4), .val (.int (1 : Int32)), .val (.int cx), .val (.int cy), .val (.int cz), .unset, .unset, .val (.ref b11), .val (.int pp), .val (.ref b43)] [(.ref b75), (.ref b75)])) _
          refine XS.aload X75.here hx rfl (hb hby at_189) rfl rfl ?_
          show Steps p.tables e below (T75.setTop (mkF m 191 #[.val (.int p0), .val (.int p1), .val (.int p2), .val (.int p3), .val (.int p4), .val (.int (1 : Int32)), .val (.int cx), .val (.int cy), .val (.int cz), .unset, .unset, .val (.ref b11), .val (.int pp), .val (.ref b43)] [(.ref b43), (.ref b75), (.ref b75)])) _
          exact kt
        have f77 := (VL73.ext E75)
        have f78 := ((((((((((((((((((((((HO.ext E11).wr W14 gn11).wr W17 gn11).wr W20 gn11).wr W23 gn11).wr W26 gn11).wr W29 gn11).wr W32 gn11).wr W35 gn11).wr W38 gn11).ext E43).wr W46 gn43).wr W49 gn43).wr W52 gn43).wr W55 gn43).wr W58 gn43).wr W61 gn43).wr W64 gn43).wr W67 gn43).wr W70 gn43).wr W73 gn43).ext E75)
        obtain ⟨v79, _, ⟨T79, L79, k79, n79⟩, -, X79, ⟨Lc79, hQ79, l79, y79, z79⟩, st79⟩ := X75.specialBack hx (y := (⟨"java/lang/String", "<init>", "([C)V"⟩ : MethodName)) rfl hown (mvT hZ (hw _ (List.mem_of_getElem? (i := 34) rfl))) (mvT hZ (hw _ (List.mem_of_getElem? (i := 35) rfl))) (mvT hZ (hw _ (List.mem_of_getElem? (i := 36) rfl))) (by decide) (StrChars.Road.backV (W := 1) hZ (own_wsV hw) (kI := 4) (hw _ (List.mem_of_getElem? (i := 3) rfl)) (cs := (own_html.set pp.toNatClampNeg (nar .char cx))) (bs := ((own_html.set pp.toNatClampNeg (nar .char cx)) : List Int32).map (fun c => c.toInt8.toInt32)) (n := 9) gn75 Z75 A75 F_value_b75 F_coder_b75 f77 (O2.ext f78.2) P5 hlen rfl (by decide) (by decide) hpc rfl (by decide) (by decide)) (g := (mkF m 191 #[.val (.int p0), .val (.int p1), .val (.int p2), .val (.int p3), .val (.int p4), .val (.int (1 : Int32)), .val (.int cx), .val (.int cy), .val (.int cz), .unset, .unset, .val (.ref b11), .val (.int pp), .val (.ref b43)] [(.ref b43), (.ref b75), (.ref b75)])) rfl (by rw [hml]; rfl) (Steps.refl _) (a := b75) (argsL := [(.ref b43)]) (rest := [(.ref b75)]) (lenOf pd_P_CQV rfl) rfl (by show 2 * 0 + _ ≤ _; exact Nat.le_of_eq rfl) (hb hby at_191) (fun _ _ => ⟨rfl, e75, (by decide : 3 + 1 ≤ _), (by decide : 22 + 9 ≤ _)⟩)
        dsimp only [Pt.U, Pt.locs, Pt.cells, Pt.slots] at X79 l79 y79 z79 st79 hQ79
        subst l79 y79 z79
        obtain ⟨rfl, N79q, KV79, EX79, CO79, tt79, kb79, -, -, -, VV79, KK79⟩ := hQ79
        have N79 := Fr.app N73 N79q
        have K79 : ∀ t, Steps p.tables e below (T79.setTop (mkF m 194 #[.val (.int p0), .val (.int p1), .val (.int p2), .val (.int p3), .val (.int p4), .val (.int (1 : Int32)), .val (.int cx), .val (.int cy), .val (.int cz), .unset, .unset, .val (.ref b11), .val (.int pp), .val (.ref b43)] [(.ref b75)])) t → Steps p.tables e below G0 t := fun t kt => K76 t (st79.trans kt)
        have Z79 : n0 ≤ T79.heap.size := Nat.le_trans Z75 KV79.1
        have sn79 : own_Str Z T79.heap b75 (own_html.set pp.toNatClampNeg (nar .char cx)) := ⟨EX79, CO79, ⟨_, _, VV79, by rw [hlen]; exact KK79⟩, hpc, by rw [hlen]; decide⟩
        have K80 : ∀ t, Steps p.tables e below (T79.setTop (mkF m 202 #[.val (.int p0), .val (.int p1), .val (.int p2), .val (.int p3), .val (.int p4), .val (.int (1 : Int32)), .val (.int cx), .val (.int cy), .val (.int cz), .val (.ref b75), .unset, .val (.ref b11), .val (.int pp), .val (.ref b43)] [(.int pp), (.ref b11), (.int cx)])) t → Steps p.tables e below G0 t := by
          intro t kt
          refine K79 t ?_
          refine XS.astore X79.here hx rfl (hb hby at_194) rfl rfl (l' := #[.val (.int p0), .val (.int p1), .val (.int p2), .val (.int p3), .val (.int p4), .val (.int (1 : Int32)), .val (.int cx), .val (.int cy), .val (.int cz), .val (.ref b75), .unset, .val (.ref b11), .val (.int pp), .val (.ref b43)]) rfl ?_
          show Steps p.tables e below (T79.setTop (mkF m 196 #[.val (.int p0), .val (.int p1), .val (.int p2), .val (.int p3), .val (.int p4), .val (.int (1 : Int32)), .val (.int cx), .val (.int cy), .val (.int cz), .val (.ref b75), .unset, .val (.ref b11), .val (.int pp), .val (.ref b43)] [])) _
          refine XS.iload X79.here hx rfl (hb hby at_196) rfl ?_
          show Steps p.tables e below (T79.setTop (mkF m 198 #[.val (.int p0), .val (.int p1), .val (.int p2), .val (.int p3), .val (.int p4), .val (.int (1 : Int32)), .val (.int cx), .val (.int cy), .val (.int cz), .val (.ref b75), .unset, .val (.ref b11), .val (.int pp), .val (.ref b43)] [(.int cx)])) _
          refine XS.aload X79.here hx rfl (hb hby at_198) rfl rfl ?_
          show Steps p.tables e below (T79.setTop (mkF m 200 #[.val (.int p0), .val (.int p1), .val (.int p2), .val (.int p3), .val (.int p4), .val (.int (1 : Int32)), .val (.int cx), .val (.int cy), .val (.int cz), .val (.ref b75), .unset, .val (.ref b11), .val (.int pp), .val (.ref b43)] [(.ref b11), (.int cx)])) _
          refine XS.iload X79.here hx rfl (hb hby at_200) rfl ?_
          show Steps p.tables e below (T79.setTop (mkF m 202 #[.val (.int p0), .val (.int p1), .val (.int p2), .val (.int p3), .val (.int p4), .val (.int (1 : Int32)), .val (.int cx), .val (.int cy), .val (.int cz), .val (.ref b75), .unset, .val (.ref b11), .val (.int pp), .val (.ref b43)] [(.int pp), (.ref b11), (.int cx)])) _
          exact kt
        have f81 := ((f74.ext E75).keep KV79 (fun q => ne_b11_b75 (List.mem_singleton.mp q)))
        obtain ⟨cl82, Ar82, qq82, S82, M82, H82, GG82⟩ := id f81
        have hin82 : ¬ (pp < 0 ∨ cl82.slots.size ≤ (pp).toNatClampNeg) := inb_of S82 ⟨pp0, hc41⟩
        have hat82 : cl82.slots[(pp).toNatClampNeg]? = some (.int (own_html.getD pp.toNatClampNeg 0)) := Has.at H82 hin82 (by rw [show ([(.int (nar .char (116 : Int32))), (.int (nar .char (101 : Int32))), (.int (nar .char (120 : Int32))), (.int (nar .char (116 : Int32))), (.int (nar .char (47 : Int32))), (.int (nar .char (104 : Int32))), (.int (nar .char (116 : Int32))), (.int (nar .char (109 : Int32))), (.int (nar .char (108 : Int32)))] : List Value) = own_html.map Value.int from rfl]; simp only [List.getD_eq_getElem?_getD, List.getElem?_map, List.getElem?_eq_getElem (show pp.toNatClampNeg < own_html.length from pp9)]; rfl)
        have K83 : ∀ t, Steps p.tables e below (T79.setTop (mkF m 203 #[.val (.int p0), .val (.int p1), .val (.int p2), .val (.int p3), .val (.int p4), .val (.int (1 : Int32)), .val (.int cx), .val (.int cy), .val (.int cz), .val (.ref b75), .unset, .val (.ref b11), .val (.int pp), .val (.ref b43)] [(.int (own_html.getD pp.toNatClampNeg 0)), (.int cx)])) t → Steps p.tables e below G0 t := by
          intro t kt
          refine K80 t ?_
          refine X79.caload hx (j := pp) (v := (.int (own_html.getD pp.toNatClampNeg 0))) (by rw [(rfl : T79.heap = _)]; exact (Ar82).1) (State.isArrayOf_alike hZ.alike (Ar82).2.1) (Ar82).2.2 hin82 hat82 (g := (mkF m 202 #[.val (.int p0), .val (.int p1), .val (.int p2), .val (.int p3), .val (.int p4), .val (.int (1 : Int32)), .val (.int cx), .val (.int cy), .val (.int cz), .val (.ref b75), .unset, .val (.ref b11), .val (.int pp), .val (.ref b43)] [(.int pp), (.ref b11), (.int cx)])) rfl rfl (hb hby at_202) _ ?_
          show Steps p.tables e below (T79.setTop (mkF m 203 #[.val (.int p0), .val (.int p1), .val (.int p2), .val (.int p3), .val (.int p4), .val (.int (1 : Int32)), .val (.int cx), .val (.int cy), .val (.int cz), .val (.ref b75), .unset, .val (.ref b11), .val (.int pp), .val (.ref b43)] [(.int (own_html.getD pp.toNatClampNeg 0)), (.int cx)])) _
          exact kt
        by_cases hc84 : cx = (own_html.getD pp.toNatClampNeg 0)
        ·
          have K85 : ∀ t, Steps p.tables e below (T79.setTop (mkF m 510 #[.val (.int p0), .val (.int p1), .val (.int p2), .val (.int p3), .val (.int p4), .val (.int (1 : Int32)), .val (.int cx), .val (.int cy), .val (.int cz), .val (.ref b75), .val (.int (1 : Int32)), .val (.ref b11), .val (.int pp), .val (.ref b43)] [])) t → Steps p.tables e below G0 t := by
            intro t kt
            refine K83 t ?_
            refine XS.icmpNo X79.here hx rfl (hb hby at_203) rfl (teq hc84).2 ?_
            show Steps p.tables e below (T79.setTop (mkF m 206 #[.val (.int p0), .val (.int p1), .val (.int p2), .val (.int p3), .val (.int p4), .val (.int (1 : Int32)), .val (.int cx), .val (.int cy), .val (.int cz), .val (.ref b75), .unset, .val (.ref b11), .val (.int pp), .val (.ref b43)] [])) _
            refine XS.iconst X79.here hx rfl (hb hby at_206) ?_
            show Steps p.tables e below (T79.setTop (mkF m 207 #[.val (.int p0), .val (.int p1), .val (.int p2), .val (.int p3), .val (.int p4), .val (.int (1 : Int32)), .val (.int cx), .val (.int cy), .val (.int cz), .val (.ref b75), .unset, .val (.ref b11), .val (.int pp), .val (.ref b43)] [(.int (1 : Int32))])) _
            refine XS.goto X79.here hx rfl (pc0 := 207) (pc' := 211) rfl (hb hby at_207) (by decide) (by decide) ?_
            show Steps p.tables e below (T79.setTop (mkF m 211 #[.val (.int p0), .val (.int p1), .val (.int p2), .val (.int p3), .val (.int p4), .val (.int (1 : Int32)), .val (.int cx), .val (.int cy), .val (.int cz), .val (.ref b75), .unset, .val (.ref b11), .val (.int pp), .val (.ref b43)] [(.int (1 : Int32))])) _
            refine XS.istore X79.here hx rfl (hb hby at_211) rfl (l' := #[.val (.int p0), .val (.int p1), .val (.int p2), .val (.int p3), .val (.int p4), .val (.int (1 : Int32)), .val (.int cx), .val (.int cy), .val (.int cz), .val (.ref b75), .val (.int (1 : Int32)), .val (.ref b11), .val (.int pp), .val (.ref b43)]) rfl ?_
            show Steps p.tables e below (T79.setTop (mkF m 213 #[.val (.int p0), .val (.int p1), .val (.int p2), .val (.int p3), .val (.int p4), .val (.int (1 : Int32)), .val (.int cx), .val (.int cy), .val (.int cz), .val (.ref b75), .val (.int (1 : Int32)), .val (.ref b11), .val (.int pp), .val (.ref b43)] [])) _
            refine XS.goto X79.here hx rfl (pc0 := 213) (pc' := 290) rfl (hb hby at_213) (by decide) (by decide) ?_
            show Steps p.tables e below (T79.setTop (mkF m 290 #[.val (.int p0), .val (.int p1), .val (.int p2), .val (.int p3), .val (.int p4), .val (.int (1 : Int32)), .val (.int cx), .val (.int cy), .val (.int cz), .val (.ref b75), .val (.int (1 : Int32)), .val (.ref b11), .val (.int pp), .val (.ref b43)] [])) _
            refine XS.goto X79.here hx rfl (pc0 := 290) (pc' := 510) rfl (hb hby at_290) (by decide) (by decide) ?_
            show Steps p.tables e below (T79.setTop (mkF m 510 #[.val (.int p0), .val (.int p1), .val (.int p2), .val (.int p3), .val (.int p4), .val (.int (1 : Int32)), .val (.int cx), .val (.int cy), .val (.int cz), .val (.ref b75), .val (.int (1 : Int32)), .val (.ref b11), .val (.int pp), .val (.ref b43)] [])) _
            exact kt
          have KQ86_0 := Keep.refl h0 []
          have sz86_11 := Nat.le_trans KQ86_0.1 (Nat.le_of_eq g11.symm)
          have KQ86_1 := KQ86_0.ext E11
          have KQ86_2 := KQ86_1.wr W14 (Or.inr sz86_11)
          have KQ86_3 := KQ86_2.wr W17 (Or.inr sz86_11)
          have KQ86_4 := KQ86_3.wr W20 (Or.inr sz86_11)
          have KQ86_5 := KQ86_4.wr W23 (Or.inr sz86_11)
          have KQ86_6 := KQ86_5.wr W26 (Or.inr sz86_11)
          have KQ86_7 := KQ86_6.wr W29 (Or.inr sz86_11)
          have KQ86_8 := KQ86_7.wr W32 (Or.inr sz86_11)
          have KQ86_9 := KQ86_8.wr W35 (Or.inr sz86_11)
          have KQ86_10 := KQ86_9.wr W38 (Or.inr sz86_11)
          have sz86_43 := Nat.le_trans KQ86_10.1 (Nat.le_of_eq g43.symm)
          have KQ86_11 := KQ86_10.ext E43
          have KQ86_12 := KQ86_11.wr W46 (Or.inr sz86_43)
          have KQ86_13 := KQ86_12.wr W49 (Or.inr sz86_43)
          have KQ86_14 := KQ86_13.wr W52 (Or.inr sz86_43)
          have KQ86_15 := KQ86_14.wr W55 (Or.inr sz86_43)
          have KQ86_16 := KQ86_15.wr W58 (Or.inr sz86_43)
          have KQ86_17 := KQ86_16.wr W61 (Or.inr sz86_43)
          have KQ86_18 := KQ86_17.wr W64 (Or.inr sz86_43)
          have KQ86_19 := KQ86_18.wr W67 (Or.inr sz86_43)
          have KQ86_20 := KQ86_19.wr W70 (Or.inr sz86_43)
          have KQ86_21 := KQ86_20.wr W73 (Or.inr sz86_43)
          have sz86_75 := Nat.le_trans KQ86_21.1 (Nat.le_of_eq g75.symm)
          have KQ86_22 := KQ86_21.ext E75
          have KQ86_23 := KQ86_22.trans KV79 (fun x hx => by simp only [List.mem_cons, List.not_mem_nil, or_false] at hx; rcases hx with rfl <;> first | exact (Or.inr sz86_75))
          have CH87 := CH0.trans (CHr.keep KQ86_23 sf0 CH0.1)
          have f88 := (Nat.le_trans (Nat.le_trans (Nat.le_trans (Nat.le_trans (Nat.le_trans (Nat.le_trans (Nat.le_trans (Nat.le_trans (Nat.le_trans (Nat.le_trans (Nat.le_trans (Nat.le_trans (Nat.le_trans (Nat.le_trans (Nat.le_trans (Nat.le_trans (Nat.le_trans (Nat.le_trans (Nat.le_trans (Nat.le_trans (Nat.le_trans (Nat.le_trans (Nat.le_trans hk0 E11.1) (Keep.of_wr W14).1) (Keep.of_wr W17).1) (Keep.of_wr W20).1) (Keep.of_wr W23).1) (Keep.of_wr W26).1) (Keep.of_wr W29).1) (Keep.of_wr W32).1) (Keep.of_wr W35).1) (Keep.of_wr W38).1) E43.1) (Keep.of_wr W46).1) (Keep.of_wr W49).1) (Keep.of_wr W52).1) (Keep.of_wr W55).1) (Keep.of_wr W58).1) (Keep.of_wr W61).1) (Keep.of_wr W64).1) (Keep.of_wr W67).1) (Keep.of_wr W70).1) (Keep.of_wr W73).1) E75.1) KV79.1)
          have f89 := (f78.keep KV79 (fun x hx => by cases List.mem_singleton.mp hx; exact gn75))
          have hq : own_q (own_html.set pp.toNatClampNeg (nar .char cx)) own_html = (1 : Int32) := by rw [own_setq _ pp9, n_cx, if_pos hc84]
          exact ⟨_, _, _, _, _, b75, (own_html.set pp.toNatClampNeg (nar .char cx)), .val (.ref b11), .val (.int pp), .val (.ref b43), X79.more (Nat.le_of_ble_eq_true rfl) (Nat.le_of_ble_eq_true rfl), (rfl : T79.heap = _), N79, Z79, hS0, f88, hZ, hown, CH87, f89, sn79, (One.val rfl), fun t kt => K85 t (by rw [hq, hk5] at kt; exact kt)⟩
        ·
          have K90 : ∀ t, Steps p.tables e below (T79.setTop (mkF m 510 #[.val (.int p0), .val (.int p1), .val (.int p2), .val (.int p3), .val (.int p4), .val (.int (1 : Int32)), .val (.int cx), .val (.int cy), .val (.int cz), .val (.ref b75), .val (.int (0 : Int32)), .val (.ref b11), .val (.int pp), .val (.ref b43)] [])) t → Steps p.tables e below G0 t := by
            intro t kt
            refine K83 t ?_
            refine XS.icmpYes X79.here hx rfl (pc0 := 203) (pc' := 210) rfl (hb hby at_203) rfl (feq hc84).2 (by decide) (by decide) ?_
            show Steps p.tables e below (T79.setTop (mkF m 210 #[.val (.int p0), .val (.int p1), .val (.int p2), .val (.int p3), .val (.int p4), .val (.int (1 : Int32)), .val (.int cx), .val (.int cy), .val (.int cz), .val (.ref b75), .unset, .val (.ref b11), .val (.int pp), .val (.ref b43)] [])) _
            refine XS.iconst X79.here hx rfl (hb hby at_210) ?_
            show Steps p.tables e below (T79.setTop (mkF m 211 #[.val (.int p0), .val (.int p1), .val (.int p2), .val (.int p3), .val (.int p4), .val (.int (1 : Int32)), .val (.int cx), .val (.int cy), .val (.int cz), .val (.ref b75), .unset, .val (.ref b11), .val (.int pp), .val (.ref b43)] [(.int (0 : Int32))])) _
            refine XS.istore X79.here hx rfl (hb hby at_211) rfl (l' := #[.val (.int p0), .val (.int p1), .val (.int p2), .val (.int p3), .val (.int p4), .val (.int (1 : Int32)), .val (.int cx), .val (.int cy), .val (.int cz), .val (.ref b75), .val (.int (0 : Int32)), .val (.ref b11), .val (.int pp), .val (.ref b43)]) rfl ?_
            show Steps p.tables e below (T79.setTop (mkF m 213 #[.val (.int p0), .val (.int p1), .val (.int p2), .val (.int p3), .val (.int p4), .val (.int (1 : Int32)), .val (.int cx), .val (.int cy), .val (.int cz), .val (.ref b75), .val (.int (0 : Int32)), .val (.ref b11), .val (.int pp), .val (.ref b43)] [])) _
            refine XS.goto X79.here hx rfl (pc0 := 213) (pc' := 290) rfl (hb hby at_213) (by decide) (by decide) ?_
            show Steps p.tables e below (T79.setTop (mkF m 290 #[.val (.int p0), .val (.int p1), .val (.int p2), .val (.int p3), .val (.int p4), .val (.int (1 : Int32)), .val (.int cx), .val (.int cy), .val (.int cz), .val (.ref b75), .val (.int (0 : Int32)), .val (.ref b11), .val (.int pp), .val (.ref b43)] [])) _
            refine XS.goto X79.here hx rfl (pc0 := 290) (pc' := 510) rfl (hb hby at_290) (by decide) (by decide) ?_
            show Steps p.tables e below (T79.setTop (mkF m 510 #[.val (.int p0), .val (.int p1), .val (.int p2), .val (.int p3), .val (.int p4), .val (.int (1 : Int32)), .val (.int cx), .val (.int cy), .val (.int cz), .val (.ref b75), .val (.int (0 : Int32)), .val (.ref b11), .val (.int pp), .val (.ref b43)] [])) _
            exact kt
          have KQ91_0 := Keep.refl h0 []
          have sz91_11 := Nat.le_trans KQ91_0.1 (Nat.le_of_eq g11.symm)
          have KQ91_1 := KQ91_0.ext E11
          have KQ91_2 := KQ91_1.wr W14 (Or.inr sz91_11)
          have KQ91_3 := KQ91_2.wr W17 (Or.inr sz91_11)
          have KQ91_4 := KQ91_3.wr W20 (Or.inr sz91_11)
          have KQ91_5 := KQ91_4.wr W23 (Or.inr sz91_11)
          have KQ91_6 := KQ91_5.wr W26 (Or.inr sz91_11)
          have KQ91_7 := KQ91_6.wr W29 (Or.inr sz91_11)
          have KQ91_8 := KQ91_7.wr W32 (Or.inr sz91_11)
          have KQ91_9 := KQ91_8.wr W35 (Or.inr sz91_11)
          have KQ91_10 := KQ91_9.wr W38 (Or.inr sz91_11)
          have sz91_43 := Nat.le_trans KQ91_10.1 (Nat.le_of_eq g43.symm)
          have KQ91_11 := KQ91_10.ext E43
          have KQ91_12 := KQ91_11.wr W46 (Or.inr sz91_43)
          have KQ91_13 := KQ91_12.wr W49 (Or.inr sz91_43)
          have KQ91_14 := KQ91_13.wr W52 (Or.inr sz91_43)
          have KQ91_15 := KQ91_14.wr W55 (Or.inr sz91_43)
          have KQ91_16 := KQ91_15.wr W58 (Or.inr sz91_43)
          have KQ91_17 := KQ91_16.wr W61 (Or.inr sz91_43)
          have KQ91_18 := KQ91_17.wr W64 (Or.inr sz91_43)
          have KQ91_19 := KQ91_18.wr W67 (Or.inr sz91_43)
          have KQ91_20 := KQ91_19.wr W70 (Or.inr sz91_43)
          have KQ91_21 := KQ91_20.wr W73 (Or.inr sz91_43)
          have sz91_75 := Nat.le_trans KQ91_21.1 (Nat.le_of_eq g75.symm)
          have KQ91_22 := KQ91_21.ext E75
          have KQ91_23 := KQ91_22.trans KV79 (fun x hx => by simp only [List.mem_cons, List.not_mem_nil, or_false] at hx; rcases hx with rfl <;> first | exact (Or.inr sz91_75))
          have CH92 := CH0.trans (CHr.keep KQ91_23 sf0 CH0.1)
          have f93 := (Nat.le_trans (Nat.le_trans (Nat.le_trans (Nat.le_trans (Nat.le_trans (Nat.le_trans (Nat.le_trans (Nat.le_trans (Nat.le_trans (Nat.le_trans (Nat.le_trans (Nat.le_trans (Nat.le_trans (Nat.le_trans (Nat.le_trans (Nat.le_trans (Nat.le_trans (Nat.le_trans (Nat.le_trans (Nat.le_trans (Nat.le_trans (Nat.le_trans (Nat.le_trans hk0 E11.1) (Keep.of_wr W14).1) (Keep.of_wr W17).1) (Keep.of_wr W20).1) (Keep.of_wr W23).1) (Keep.of_wr W26).1) (Keep.of_wr W29).1) (Keep.of_wr W32).1) (Keep.of_wr W35).1) (Keep.of_wr W38).1) E43.1) (Keep.of_wr W46).1) (Keep.of_wr W49).1) (Keep.of_wr W52).1) (Keep.of_wr W55).1) (Keep.of_wr W58).1) (Keep.of_wr W61).1) (Keep.of_wr W64).1) (Keep.of_wr W67).1) (Keep.of_wr W70).1) (Keep.of_wr W73).1) E75.1) KV79.1)
          have f94 := (f78.keep KV79 (fun x hx => by cases List.mem_singleton.mp hx; exact gn75))
          have hq : own_q (own_html.set pp.toNatClampNeg (nar .char cx)) own_html = (0 : Int32) := by rw [own_setq _ pp9, n_cx, if_neg hc84]
          exact ⟨_, _, _, _, _, b75, (own_html.set pp.toNatClampNeg (nar .char cx)), .val (.ref b11), .val (.int pp), .val (.ref b43), X79.more (Nat.le_of_ble_eq_true rfl) (Nat.le_of_ble_eq_true rfl), (rfl : T79.heap = _), N79, Z79, hS0, f93, hZ, hown, CH92, f94, sn79, (One.val rfl), fun t kt => K90 t (by rw [hq, hk5] at kt; exact kt)⟩
      ·
        have K95 : ∀ t, Steps p.tables e below (T38.setTop (mkF m 218 #[.val (.int p0), .val (.int p1), .val (.int p2), .val (.int p3), .val (.int p4), .val (.int (1 : Int32)), .val (.int cx), .val (.int cy), .val (.int cz), .unset, .unset, .val (.ref b11), .val (.int pp), .unset] [(.int (10 : Int32))])) t → Steps p.tables e below G0 t := by
          intro t kt
          refine K40 t ?_
          refine XS.icmpYes X38.here hx rfl (pc0 := 121) (pc' := 216) rfl (hb hby at_121) rfl (flt hc41).2.1 (by decide) (by decide) ?_
          show Steps p.tables e below (T38.setTop (mkF m 216 #[.val (.int p0), .val (.int p1), .val (.int p2), .val (.int p3), .val (.int p4), .val (.int (1 : Int32)), .val (.int cx), .val (.int cy), .val (.int cz), .unset, .unset, .val (.ref b11), .val (.int pp), .unset] [])) _
          refine XS.bipush X38.here hx rfl (hb hby at_216) ?_
          show Steps p.tables e below (T38.setTop (mkF m 218 #[.val (.int p0), .val (.int p1), .val (.int p2), .val (.int p3), .val (.int p4), .val (.int (1 : Int32)), .val (.int cx), .val (.int cy), .val (.int cz), .unset, .unset, .val (.ref b11), .val (.int pp), .unset] [(.int (10 : Int32))])) _
          exact kt
        obtain ⟨T96, h96, k96, X96, e96, E96, A96, st96⟩ := newP X38 hx hZ (hw _ (List.mem_of_getElem? (i := 33) rfl)) e38 (g := (mkF m 218 #[.val (.int p0), .val (.int p1), .val (.int p2), .val (.int p3), .val (.int p4), .val (.int (1 : Int32)), .val (.int cx), .val (.int cy), .val (.int cz), .unset, .unset, .val (.ref b11), .val (.int pp), .unset] [(.int (10 : Int32))])) rfl (hb hby at_218) rfl (by decide) (cap := 10) (by decide) (by decide) (by decide) (by decide)
        obtain ⟨b96, g96⟩ : ∃ z, z = h38.size := ⟨_, rfl⟩
        rw [← g96] at A96 st96
        have V96 := Arv.new A96 (by decide)
        have gn96 : n0 ≤ b96 := Nat.le_trans Z38 (Nat.le_of_eq g96.symm)
        have Z96 : n0 ≤ h96.size := Nat.le_trans Z38 E96.1
        have K96 : ∀ t, Steps p.tables e below (T96.setTop (mkF m 220 #[.val (.int p0), .val (.int p1), .val (.int p2), .val (.int p3), .val (.int p4), .val (.int (1 : Int32)), .val (.int cx), .val (.int cy), .val (.int cz), .unset, .unset, .val (.ref b11), .val (.int pp), .unset] [(.ref b96)])) t → Steps p.tables e below G0 t := fun t kt => K95 t (st96 _ kt)
        have ne_b11_b96 : b11 ≠ b96 := Nat.ne_of_lt (Nat.lt_of_lt_of_le (VL38).lt (Nat.le_of_eq g96.symm))
        have VL96 : Arv Z h96 b96 k96 .char (10 : Int32) [(.int (0 : Int32)), (.int (0 : Int32)), (.int (0 : Int32)), (.int (0 : Int32)), (.int (0 : Int32)), (.int (0 : Int32)), (.int (0 : Int32)), (.int (0 : Int32)), (.int (0 : Int32)), (.int (0 : Int32))] (.int (0 : Int32)) := V96.pad (pad_rep [] (.int (0 : Int32)) 10)
        have K97 : ∀ t, Steps p.tables e below (T96.setTop (mkF m 224 #[.val (.int p0), .val (.int p1), .val (.int p2), .val (.int p3), .val (.int p4), .val (.int (1 : Int32)), .val (.int cx), .val (.int cy), .val (.int cz), .unset, .unset, .val (.ref b11), .val (.int pp), .unset] [(.int (116 : Int32)), (.int (0 : Int32)), (.ref b96), (.ref b96)])) t → Steps p.tables e below G0 t := by
          intro t kt
          refine K96 t ?_
          refine XS.dup X96.here hx rfl (hb hby at_220) rfl rfl ?_
          show Steps p.tables e below (T96.setTop (mkF m 221 #[.val (.int p0), .val (.int p1), .val (.int p2), .val (.int p3), .val (.int p4), .val (.int (1 : Int32)), .val (.int cx), .val (.int cy), .val (.int cz), .unset, .unset, .val (.ref b11), .val (.int pp), .unset] [(.ref b96), (.ref b96)])) _
          refine XS.iconst X96.here hx rfl (hb hby at_221) ?_
          show Steps p.tables e below (T96.setTop (mkF m 222 #[.val (.int p0), .val (.int p1), .val (.int p2), .val (.int p3), .val (.int p4), .val (.int (1 : Int32)), .val (.int cx), .val (.int cy), .val (.int cz), .unset, .unset, .val (.ref b11), .val (.int pp), .unset] [(.int (0 : Int32)), (.ref b96), (.ref b96)])) _
          refine XS.bipush X96.here hx rfl (hb hby at_222) ?_
          show Steps p.tables e below (T96.setTop (mkF m 224 #[.val (.int p0), .val (.int p1), .val (.int p2), .val (.int p3), .val (.int p4), .val (.int (1 : Int32)), .val (.int cx), .val (.int cy), .val (.int cz), .unset, .unset, .val (.ref b11), .val (.int pp), .unset] [(.int (116 : Int32)), (.int (0 : Int32)), (.ref b96), (.ref b96)])) _
          exact kt
        obtain ⟨cl98, Ar98, qq98, S98, M98, H98, GG98⟩ := id VL96
        have hin98 : ¬ ((0 : Int32) < 0 ∨ cl98.slots.size ≤ ((0 : Int32)).toNatClampNeg) := inb_of S98 ⟨by decide, by decide⟩
        obtain ⟨T99, h99, X99, e99, W99, st99⟩ := stC X96 hx hZ e96 Ar98 (j := (0 : Int32)) hin98 (g := (mkF m 224 #[.val (.int p0), .val (.int p1), .val (.int p2), .val (.int p3), .val (.int p4), .val (.int (1 : Int32)), .val (.int cx), .val (.int cy), .val (.int cz), .unset, .unset, .val (.ref b11), .val (.int pp), .unset] [(.int (116 : Int32)), (.int (0 : Int32)), (.ref b96), (.ref b96)])) rfl rfl (hb hby at_224)
        have K99 : ∀ t, Steps p.tables e below (T99.setTop (mkF m 225 #[.val (.int p0), .val (.int p1), .val (.int p2), .val (.int p3), .val (.int p4), .val (.int (1 : Int32)), .val (.int cx), .val (.int cy), .val (.int cz), .unset, .unset, .val (.ref b11), .val (.int pp), .unset] [(.ref b96)])) t → Steps p.tables e below G0 t := fun t kt => K97 t (st99 _ kt)
        have Z99 : n0 ≤ h99.size := Nat.le_trans Z96 (Keep.of_wr W99).1
        have VL99 : Arv Z h99 b96 k96 .char (10 : Int32) [(.int (nar .char (116 : Int32))), (.int (0 : Int32)), (.int (0 : Int32)), (.int (0 : Int32)), (.int (0 : Int32)), (.int (0 : Int32)), (.int (0 : Int32)), (.int (0 : Int32)), (.int (0 : Int32)), (.int (0 : Int32))] (.int (0 : Int32)) := Arv.set Ar98 qq98 S98 M98 H98 GG98 (fits_nar_char _) W99 0 rfl (Nat.le_of_ble_eq_true rfl)
        have N99 := Fr.snoc X99 N38 gn96
        have K100 : ∀ t, Steps p.tables e below (T99.setTop (mkF m 229 #[.val (.int p0), .val (.int p1), .val (.int p2), .val (.int p3), .val (.int p4), .val (.int (1 : Int32)), .val (.int cx), .val (.int cy), .val (.int cz), .unset, .unset, .val (.ref b11), .val (.int pp), .unset] [(.int (101 : Int32)), (.int (1 : Int32)), (.ref b96), (.ref b96)])) t → Steps p.tables e below G0 t := by
          intro t kt
          refine K99 t ?_
          refine XS.dup X99.here hx rfl (hb hby at_225) rfl rfl ?_
          show Steps p.tables e below (T99.setTop (mkF m 226 #[.val (.int p0), .val (.int p1), .val (.int p2), .val (.int p3), .val (.int p4), .val (.int (1 : Int32)), .val (.int cx), .val (.int cy), .val (.int cz), .unset, .unset, .val (.ref b11), .val (.int pp), .unset] [(.ref b96), (.ref b96)])) _
          refine XS.iconst X99.here hx rfl (hb hby at_226) ?_
          show Steps p.tables e below (T99.setTop (mkF m 227 #[.val (.int p0), .val (.int p1), .val (.int p2), .val (.int p3), .val (.int p4), .val (.int (1 : Int32)), .val (.int cx), .val (.int cy), .val (.int cz), .unset, .unset, .val (.ref b11), .val (.int pp), .unset] [(.int (1 : Int32)), (.ref b96), (.ref b96)])) _
          refine XS.bipush X99.here hx rfl (hb hby at_227) ?_
          show Steps p.tables e below (T99.setTop (mkF m 229 #[.val (.int p0), .val (.int p1), .val (.int p2), .val (.int p3), .val (.int p4), .val (.int (1 : Int32)), .val (.int cx), .val (.int cy), .val (.int cz), .unset, .unset, .val (.ref b11), .val (.int pp), .unset] [(.int (101 : Int32)), (.int (1 : Int32)), (.ref b96), (.ref b96)])) _
          exact kt
        obtain ⟨cl101, Ar101, qq101, S101, M101, H101, GG101⟩ := id VL99
        have hin101 : ¬ ((1 : Int32) < 0 ∨ cl101.slots.size ≤ ((1 : Int32)).toNatClampNeg) := inb_of S101 ⟨by decide, by decide⟩
        obtain ⟨T102, h102, X102, e102, W102, st102⟩ := stC X99 hx hZ e99 Ar101 (j := (1 : Int32)) hin101 (g := (mkF m 229 #[.val (.int p0), .val (.int p1), .val (.int p2), .val (.int p3), .val (.int p4), .val (.int (1 : Int32)), .val (.int cx), .val (.int cy), .val (.int cz), .unset, .unset, .val (.ref b11), .val (.int pp), .unset] [(.int (101 : Int32)), (.int (1 : Int32)), (.ref b96), (.ref b96)])) rfl rfl (hb hby at_229)
        have K102 : ∀ t, Steps p.tables e below (T102.setTop (mkF m 230 #[.val (.int p0), .val (.int p1), .val (.int p2), .val (.int p3), .val (.int p4), .val (.int (1 : Int32)), .val (.int cx), .val (.int cy), .val (.int cz), .unset, .unset, .val (.ref b11), .val (.int pp), .unset] [(.ref b96)])) t → Steps p.tables e below G0 t := fun t kt => K100 t (st102 _ kt)
        have Z102 : n0 ≤ h102.size := Nat.le_trans Z99 (Keep.of_wr W102).1
        have VL102 : Arv Z h102 b96 k96 .char (10 : Int32) [(.int (nar .char (116 : Int32))), (.int (nar .char (101 : Int32))), (.int (0 : Int32)), (.int (0 : Int32)), (.int (0 : Int32)), (.int (0 : Int32)), (.int (0 : Int32)), (.int (0 : Int32)), (.int (0 : Int32)), (.int (0 : Int32))] (.int (0 : Int32)) := Arv.set Ar101 qq101 S101 M101 H101 GG101 (fits_nar_char _) W102 1 rfl (Nat.le_of_ble_eq_true rfl)
        have N102 := Fr.snoc X102 N99 gn96
        have K103 : ∀ t, Steps p.tables e below (T102.setTop (mkF m 234 #[.val (.int p0), .val (.int p1), .val (.int p2), .val (.int p3), .val (.int p4), .val (.int (1 : Int32)), .val (.int cx), .val (.int cy), .val (.int cz), .unset, .unset, .val (.ref b11), .val (.int pp), .unset] [(.int (120 : Int32)), (.int (2 : Int32)), (.ref b96), (.ref b96)])) t → Steps p.tables e below G0 t := by
          intro t kt
          refine K102 t ?_
          refine XS.dup X102.here hx rfl (hb hby at_230) rfl rfl ?_
          show Steps p.tables e below (T102.setTop (mkF m 231 #[.val (.int p0), .val (.int p1), .val (.int p2), .val (.int p3), .val (.int p4), .val (.int (1 : Int32)), .val (.int cx), .val (.int cy), .val (.int cz), .unset, .unset, .val (.ref b11), .val (.int pp), .unset] [(.ref b96), (.ref b96)])) _
          refine XS.iconst X102.here hx rfl (hb hby at_231) ?_
          show Steps p.tables e below (T102.setTop (mkF m 232 #[.val (.int p0), .val (.int p1), .val (.int p2), .val (.int p3), .val (.int p4), .val (.int (1 : Int32)), .val (.int cx), .val (.int cy), .val (.int cz), .unset, .unset, .val (.ref b11), .val (.int pp), .unset] [(.int (2 : Int32)), (.ref b96), (.ref b96)])) _
          refine XS.bipush X102.here hx rfl (hb hby at_232) ?_
          show Steps p.tables e below (T102.setTop (mkF m 234 #[.val (.int p0), .val (.int p1), .val (.int p2), .val (.int p3), .val (.int p4), .val (.int (1 : Int32)), .val (.int cx), .val (.int cy), .val (.int cz), .unset, .unset, .val (.ref b11), .val (.int pp), .unset] [(.int (120 : Int32)), (.int (2 : Int32)), (.ref b96), (.ref b96)])) _
          exact kt
        obtain ⟨cl104, Ar104, qq104, S104, M104, H104, GG104⟩ := id VL102
        have hin104 : ¬ ((2 : Int32) < 0 ∨ cl104.slots.size ≤ ((2 : Int32)).toNatClampNeg) := inb_of S104 ⟨by decide, by decide⟩
        obtain ⟨T105, h105, X105, e105, W105, st105⟩ := stC X102 hx hZ e102 Ar104 (j := (2 : Int32)) hin104 (g := (mkF m 234 #[.val (.int p0), .val (.int p1), .val (.int p2), .val (.int p3), .val (.int p4), .val (.int (1 : Int32)), .val (.int cx), .val (.int cy), .val (.int cz), .unset, .unset, .val (.ref b11), .val (.int pp), .unset] [(.int (120 : Int32)), (.int (2 : Int32)), (.ref b96), (.ref b96)])) rfl rfl (hb hby at_234)
        have K105 : ∀ t, Steps p.tables e below (T105.setTop (mkF m 235 #[.val (.int p0), .val (.int p1), .val (.int p2), .val (.int p3), .val (.int p4), .val (.int (1 : Int32)), .val (.int cx), .val (.int cy), .val (.int cz), .unset, .unset, .val (.ref b11), .val (.int pp), .unset] [(.ref b96)])) t → Steps p.tables e below G0 t := fun t kt => K103 t (st105 _ kt)
        have Z105 : n0 ≤ h105.size := Nat.le_trans Z102 (Keep.of_wr W105).1
        have VL105 : Arv Z h105 b96 k96 .char (10 : Int32) [(.int (nar .char (116 : Int32))), (.int (nar .char (101 : Int32))), (.int (nar .char (120 : Int32))), (.int (0 : Int32)), (.int (0 : Int32)), (.int (0 : Int32)), (.int (0 : Int32)), (.int (0 : Int32)), (.int (0 : Int32)), (.int (0 : Int32))] (.int (0 : Int32)) := Arv.set Ar104 qq104 S104 M104 H104 GG104 (fits_nar_char _) W105 2 rfl (Nat.le_of_ble_eq_true rfl)
        have N105 := Fr.snoc X105 N102 gn96
        have K106 : ∀ t, Steps p.tables e below (T105.setTop (mkF m 239 #[.val (.int p0), .val (.int p1), .val (.int p2), .val (.int p3), .val (.int p4), .val (.int (1 : Int32)), .val (.int cx), .val (.int cy), .val (.int cz), .unset, .unset, .val (.ref b11), .val (.int pp), .unset] [(.int (116 : Int32)), (.int (3 : Int32)), (.ref b96), (.ref b96)])) t → Steps p.tables e below G0 t := by
          intro t kt
          refine K105 t ?_
          refine XS.dup X105.here hx rfl (hb hby at_235) rfl rfl ?_
          show Steps p.tables e below (T105.setTop (mkF m 236 #[.val (.int p0), .val (.int p1), .val (.int p2), .val (.int p3), .val (.int p4), .val (.int (1 : Int32)), .val (.int cx), .val (.int cy), .val (.int cz), .unset, .unset, .val (.ref b11), .val (.int pp), .unset] [(.ref b96), (.ref b96)])) _
          refine XS.iconst X105.here hx rfl (hb hby at_236) ?_
          show Steps p.tables e below (T105.setTop (mkF m 237 #[.val (.int p0), .val (.int p1), .val (.int p2), .val (.int p3), .val (.int p4), .val (.int (1 : Int32)), .val (.int cx), .val (.int cy), .val (.int cz), .unset, .unset, .val (.ref b11), .val (.int pp), .unset] [(.int (3 : Int32)), (.ref b96), (.ref b96)])) _
          refine XS.bipush X105.here hx rfl (hb hby at_237) ?_
          show Steps p.tables e below (T105.setTop (mkF m 239 #[.val (.int p0), .val (.int p1), .val (.int p2), .val (.int p3), .val (.int p4), .val (.int (1 : Int32)), .val (.int cx), .val (.int cy), .val (.int cz), .unset, .unset, .val (.ref b11), .val (.int pp), .unset] [(.int (116 : Int32)), (.int (3 : Int32)), (.ref b96), (.ref b96)])) _
          exact kt
        obtain ⟨cl107, Ar107, qq107, S107, M107, H107, GG107⟩ := id VL105
        have hin107 : ¬ ((3 : Int32) < 0 ∨ cl107.slots.size ≤ ((3 : Int32)).toNatClampNeg) := inb_of S107 ⟨by decide, by decide⟩
        obtain ⟨T108, h108, X108, e108, W108, st108⟩ := stC X105 hx hZ e105 Ar107 (j := (3 : Int32)) hin107 (g := (mkF m 239 #[.val (.int p0), .val (.int p1), .val (.int p2), .val (.int p3), .val (.int p4), .val (.int (1 : Int32)), .val (.int cx), .val (.int cy), .val (.int cz), .unset, .unset, .val (.ref b11), .val (.int pp), .unset] [(.int (116 : Int32)), (.int (3 : Int32)), (.ref b96), (.ref b96)])) rfl rfl (hb hby at_239)
        have K108 : ∀ t, Steps p.tables e below (T108.setTop (mkF m 240 #[.val (.int p0), .val (.int p1), .val (.int p2), .val (.int p3), .val (.int p4), .val (.int (1 : Int32)), .val (.int cx), .val (.int cy), .val (.int cz), .unset, .unset, .val (.ref b11), .val (.int pp), .unset] [(.ref b96)])) t → Steps p.tables e below G0 t := fun t kt => K106 t (st108 _ kt)
        have Z108 : n0 ≤ h108.size := Nat.le_trans Z105 (Keep.of_wr W108).1
        have VL108 : Arv Z h108 b96 k96 .char (10 : Int32) [(.int (nar .char (116 : Int32))), (.int (nar .char (101 : Int32))), (.int (nar .char (120 : Int32))), (.int (nar .char (116 : Int32))), (.int (0 : Int32)), (.int (0 : Int32)), (.int (0 : Int32)), (.int (0 : Int32)), (.int (0 : Int32)), (.int (0 : Int32))] (.int (0 : Int32)) := Arv.set Ar107 qq107 S107 M107 H107 GG107 (fits_nar_char _) W108 3 rfl (Nat.le_of_ble_eq_true rfl)
        have N108 := Fr.snoc X108 N105 gn96
        have K109 : ∀ t, Steps p.tables e below (T108.setTop (mkF m 244 #[.val (.int p0), .val (.int p1), .val (.int p2), .val (.int p3), .val (.int p4), .val (.int (1 : Int32)), .val (.int cx), .val (.int cy), .val (.int cz), .unset, .unset, .val (.ref b11), .val (.int pp), .unset] [(.int (47 : Int32)), (.int (4 : Int32)), (.ref b96), (.ref b96)])) t → Steps p.tables e below G0 t := by
          intro t kt
          refine K108 t ?_
          refine XS.dup X108.here hx rfl (hb hby at_240) rfl rfl ?_
          show Steps p.tables e below (T108.setTop (mkF m 241 #[.val (.int p0), .val (.int p1), .val (.int p2), .val (.int p3), .val (.int p4), .val (.int (1 : Int32)), .val (.int cx), .val (.int cy), .val (.int cz), .unset, .unset, .val (.ref b11), .val (.int pp), .unset] [(.ref b96), (.ref b96)])) _
          refine XS.iconst X108.here hx rfl (hb hby at_241) ?_
          show Steps p.tables e below (T108.setTop (mkF m 242 #[.val (.int p0), .val (.int p1), .val (.int p2), .val (.int p3), .val (.int p4), .val (.int (1 : Int32)), .val (.int cx), .val (.int cy), .val (.int cz), .unset, .unset, .val (.ref b11), .val (.int pp), .unset] [(.int (4 : Int32)), (.ref b96), (.ref b96)])) _
          refine XS.bipush X108.here hx rfl (hb hby at_242) ?_
          show Steps p.tables e below (T108.setTop (mkF m 244 #[.val (.int p0), .val (.int p1), .val (.int p2), .val (.int p3), .val (.int p4), .val (.int (1 : Int32)), .val (.int cx), .val (.int cy), .val (.int cz), .unset, .unset, .val (.ref b11), .val (.int pp), .unset] [(.int (47 : Int32)), (.int (4 : Int32)), (.ref b96), (.ref b96)])) _
          exact kt
        obtain ⟨cl110, Ar110, qq110, S110, M110, H110, GG110⟩ := id VL108
        have hin110 : ¬ ((4 : Int32) < 0 ∨ cl110.slots.size ≤ ((4 : Int32)).toNatClampNeg) := inb_of S110 ⟨by decide, by decide⟩
        obtain ⟨T111, h111, X111, e111, W111, st111⟩ := stC X108 hx hZ e108 Ar110 (j := (4 : Int32)) hin110 (g := (mkF m 244 #[.val (.int p0), .val (.int p1), .val (.int p2), .val (.int p3), .val (.int p4), .val (.int (1 : Int32)), .val (.int cx), .val (.int cy), .val (.int cz), .unset, .unset, .val (.ref b11), .val (.int pp), .unset] [(.int (47 : Int32)), (.int (4 : Int32)), (.ref b96), (.ref b96)])) rfl rfl (hb hby at_244)
        have K111 : ∀ t, Steps p.tables e below (T111.setTop (mkF m 245 #[.val (.int p0), .val (.int p1), .val (.int p2), .val (.int p3), .val (.int p4), .val (.int (1 : Int32)), .val (.int cx), .val (.int cy), .val (.int cz), .unset, .unset, .val (.ref b11), .val (.int pp), .unset] [(.ref b96)])) t → Steps p.tables e below G0 t := fun t kt => K109 t (st111 _ kt)
        have Z111 : n0 ≤ h111.size := Nat.le_trans Z108 (Keep.of_wr W111).1
        have VL111 : Arv Z h111 b96 k96 .char (10 : Int32) [(.int (nar .char (116 : Int32))), (.int (nar .char (101 : Int32))), (.int (nar .char (120 : Int32))), (.int (nar .char (116 : Int32))), (.int (nar .char (47 : Int32))), (.int (0 : Int32)), (.int (0 : Int32)), (.int (0 : Int32)), (.int (0 : Int32)), (.int (0 : Int32))] (.int (0 : Int32)) := Arv.set Ar110 qq110 S110 M110 H110 GG110 (fits_nar_char _) W111 4 rfl (Nat.le_of_ble_eq_true rfl)
        have N111 := Fr.snoc X111 N108 gn96
        have K112 : ∀ t, Steps p.tables e below (T111.setTop (mkF m 249 #[.val (.int p0), .val (.int p1), .val (.int p2), .val (.int p3), .val (.int p4), .val (.int (1 : Int32)), .val (.int cx), .val (.int cy), .val (.int cz), .unset, .unset, .val (.ref b11), .val (.int pp), .unset] [(.int (104 : Int32)), (.int (5 : Int32)), (.ref b96), (.ref b96)])) t → Steps p.tables e below G0 t := by
          intro t kt
          refine K111 t ?_
          refine XS.dup X111.here hx rfl (hb hby at_245) rfl rfl ?_
          show Steps p.tables e below (T111.setTop (mkF m 246 #[.val (.int p0), .val (.int p1), .val (.int p2), .val (.int p3), .val (.int p4), .val (.int (1 : Int32)), .val (.int cx), .val (.int cy), .val (.int cz), .unset, .unset, .val (.ref b11), .val (.int pp), .unset] [(.ref b96), (.ref b96)])) _
          refine XS.iconst X111.here hx rfl (hb hby at_246) ?_
          show Steps p.tables e below (T111.setTop (mkF m 247 #[.val (.int p0), .val (.int p1), .val (.int p2), .val (.int p3), .val (.int p4), .val (.int (1 : Int32)), .val (.int cx), .val (.int cy), .val (.int cz), .unset, .unset, .val (.ref b11), .val (.int pp), .unset] [(.int (5 : Int32)), (.ref b96), (.ref b96)])) _
          refine XS.bipush X111.here hx rfl (hb hby at_247) ?_
          show Steps p.tables e below (T111.setTop (mkF m 249 #[.val (.int p0), .val (.int p1), .val (.int p2), .val (.int p3), .val (.int p4), .val (.int (1 : Int32)), .val (.int cx), .val (.int cy), .val (.int cz), .unset, .unset, .val (.ref b11), .val (.int pp), .unset] [(.int (104 : Int32)), (.int (5 : Int32)), (.ref b96), (.ref b96)])) _
          exact kt
        obtain ⟨cl113, Ar113, qq113, S113, M113, H113, GG113⟩ := id VL111
        have hin113 : ¬ ((5 : Int32) < 0 ∨ cl113.slots.size ≤ ((5 : Int32)).toNatClampNeg) := inb_of S113 ⟨by decide, by decide⟩
        obtain ⟨T114, h114, X114, e114, W114, st114⟩ := stC X111 hx hZ e111 Ar113 (j := (5 : Int32)) hin113 (g := (mkF m 249 #[.val (.int p0), .val (.int p1), .val (.int p2), .val (.int p3), .val (.int p4), .val (.int (1 : Int32)), .val (.int cx), .val (.int cy), .val (.int cz), .unset, .unset, .val (.ref b11), .val (.int pp), .unset] [(.int (104 : Int32)), (.int (5 : Int32)), (.ref b96), (.ref b96)])) rfl rfl (hb hby at_249)
        have K114 : ∀ t, Steps p.tables e below (T114.setTop (mkF m 250 #[.val (.int p0), .val (.int p1), .val (.int p2), .val (.int p3), .val (.int p4), .val (.int (1 : Int32)), .val (.int cx), .val (.int cy), .val (.int cz), .unset, .unset, .val (.ref b11), .val (.int pp), .unset] [(.ref b96)])) t → Steps p.tables e below G0 t := fun t kt => K112 t (st114 _ kt)
        have Z114 : n0 ≤ h114.size := Nat.le_trans Z111 (Keep.of_wr W114).1
        have VL114 : Arv Z h114 b96 k96 .char (10 : Int32) [(.int (nar .char (116 : Int32))), (.int (nar .char (101 : Int32))), (.int (nar .char (120 : Int32))), (.int (nar .char (116 : Int32))), (.int (nar .char (47 : Int32))), (.int (nar .char (104 : Int32))), (.int (0 : Int32)), (.int (0 : Int32)), (.int (0 : Int32)), (.int (0 : Int32))] (.int (0 : Int32)) := Arv.set Ar113 qq113 S113 M113 H113 GG113 (fits_nar_char _) W114 5 rfl (Nat.le_of_ble_eq_true rfl)
        have N114 := Fr.snoc X114 N111 gn96
        have K115 : ∀ t, Steps p.tables e below (T114.setTop (mkF m 255 #[.val (.int p0), .val (.int p1), .val (.int p2), .val (.int p3), .val (.int p4), .val (.int (1 : Int32)), .val (.int cx), .val (.int cy), .val (.int cz), .unset, .unset, .val (.ref b11), .val (.int pp), .unset] [(.int (116 : Int32)), (.int (6 : Int32)), (.ref b96), (.ref b96)])) t → Steps p.tables e below G0 t := by
          intro t kt
          refine K114 t ?_
          refine XS.dup X114.here hx rfl (hb hby at_250) rfl rfl ?_
          show Steps p.tables e below (T114.setTop (mkF m 251 #[.val (.int p0), .val (.int p1), .val (.int p2), .val (.int p3), .val (.int p4), .val (.int (1 : Int32)), .val (.int cx), .val (.int cy), .val (.int cz), .unset, .unset, .val (.ref b11), .val (.int pp), .unset] [(.ref b96), (.ref b96)])) _
          refine XS.bipush X114.here hx rfl (hb hby at_251) ?_
          show Steps p.tables e below (T114.setTop (mkF m 253 #[.val (.int p0), .val (.int p1), .val (.int p2), .val (.int p3), .val (.int p4), .val (.int (1 : Int32)), .val (.int cx), .val (.int cy), .val (.int cz), .unset, .unset, .val (.ref b11), .val (.int pp), .unset] [(.int (6 : Int32)), (.ref b96), (.ref b96)])) _
          refine XS.bipush X114.here hx rfl (hb hby at_253) ?_
          show Steps p.tables e below (T114.setTop (mkF m 255 #[.val (.int p0), .val (.int p1), .val (.int p2), .val (.int p3), .val (.int p4), .val (.int (1 : Int32)), .val (.int cx), .val (.int cy), .val (.int cz), .unset, .unset, .val (.ref b11), .val (.int pp), .unset] [(.int (116 : Int32)), (.int (6 : Int32)), (.ref b96), (.ref b96)])) _
          exact kt
        obtain ⟨cl116, Ar116, qq116, S116, M116, H116, GG116⟩ := id VL114
        have hin116 : ¬ ((6 : Int32) < 0 ∨ cl116.slots.size ≤ ((6 : Int32)).toNatClampNeg) := inb_of S116 ⟨by decide, by decide⟩
        obtain ⟨T117, h117, X117, e117, W117, st117⟩ := stC X114 hx hZ e114 Ar116 (j := (6 : Int32)) hin116 (g := (mkF m 255 #[.val (.int p0), .val (.int p1), .val (.int p2), .val (.int p3), .val (.int p4), .val (.int (1 : Int32)), .val (.int cx), .val (.int cy), .val (.int cz), .unset, .unset, .val (.ref b11), .val (.int pp), .unset] [(.int (116 : Int32)), (.int (6 : Int32)), (.ref b96), (.ref b96)])) rfl rfl (hb hby at_255)
        have K117 : ∀ t, Steps p.tables e below (T117.setTop (mkF m 256 #[.val (.int p0), .val (.int p1), .val (.int p2), .val (.int p3), .val (.int p4), .val (.int (1 : Int32)), .val (.int cx), .val (.int cy), .val (.int cz), .unset, .unset, .val (.ref b11), .val (.int pp), .unset] [(.ref b96)])) t → Steps p.tables e below G0 t := fun t kt => K115 t (st117 _ kt)
        have Z117 : n0 ≤ h117.size := Nat.le_trans Z114 (Keep.of_wr W117).1
        have VL117 : Arv Z h117 b96 k96 .char (10 : Int32) [(.int (nar .char (116 : Int32))), (.int (nar .char (101 : Int32))), (.int (nar .char (120 : Int32))), (.int (nar .char (116 : Int32))), (.int (nar .char (47 : Int32))), (.int (nar .char (104 : Int32))), (.int (nar .char (116 : Int32))), (.int (0 : Int32)), (.int (0 : Int32)), (.int (0 : Int32))] (.int (0 : Int32)) := Arv.set Ar116 qq116 S116 M116 H116 GG116 (fits_nar_char _) W117 6 rfl (Nat.le_of_ble_eq_true rfl)
        have N117 := Fr.snoc X117 N114 gn96
        have K118 : ∀ t, Steps p.tables e below (T117.setTop (mkF m 261 #[.val (.int p0), .val (.int p1), .val (.int p2), .val (.int p3), .val (.int p4), .val (.int (1 : Int32)), .val (.int cx), .val (.int cy), .val (.int cz), .unset, .unset, .val (.ref b11), .val (.int pp), .unset] [(.int (109 : Int32)), (.int (7 : Int32)), (.ref b96), (.ref b96)])) t → Steps p.tables e below G0 t := by
          intro t kt
          refine K117 t ?_
          refine XS.dup X117.here hx rfl (hb hby at_256) rfl rfl ?_
          show Steps p.tables e below (T117.setTop (mkF m 257 #[.val (.int p0), .val (.int p1), .val (.int p2), .val (.int p3), .val (.int p4), .val (.int (1 : Int32)), .val (.int cx), .val (.int cy), .val (.int cz), .unset, .unset, .val (.ref b11), .val (.int pp), .unset] [(.ref b96), (.ref b96)])) _
          refine XS.bipush X117.here hx rfl (hb hby at_257) ?_
          show Steps p.tables e below (T117.setTop (mkF m 259 #[.val (.int p0), .val (.int p1), .val (.int p2), .val (.int p3), .val (.int p4), .val (.int (1 : Int32)), .val (.int cx), .val (.int cy), .val (.int cz), .unset, .unset, .val (.ref b11), .val (.int pp), .unset] [(.int (7 : Int32)), (.ref b96), (.ref b96)])) _
          refine XS.bipush X117.here hx rfl (hb hby at_259) ?_
          show Steps p.tables e below (T117.setTop (mkF m 261 #[.val (.int p0), .val (.int p1), .val (.int p2), .val (.int p3), .val (.int p4), .val (.int (1 : Int32)), .val (.int cx), .val (.int cy), .val (.int cz), .unset, .unset, .val (.ref b11), .val (.int pp), .unset] [(.int (109 : Int32)), (.int (7 : Int32)), (.ref b96), (.ref b96)])) _
          exact kt
        obtain ⟨cl119, Ar119, qq119, S119, M119, H119, GG119⟩ := id VL117
        have hin119 : ¬ ((7 : Int32) < 0 ∨ cl119.slots.size ≤ ((7 : Int32)).toNatClampNeg) := inb_of S119 ⟨by decide, by decide⟩
        obtain ⟨T120, h120, X120, e120, W120, st120⟩ := stC X117 hx hZ e117 Ar119 (j := (7 : Int32)) hin119 (g := (mkF m 261 #[.val (.int p0), .val (.int p1), .val (.int p2), .val (.int p3), .val (.int p4), .val (.int (1 : Int32)), .val (.int cx), .val (.int cy), .val (.int cz), .unset, .unset, .val (.ref b11), .val (.int pp), .unset] [(.int (109 : Int32)), (.int (7 : Int32)), (.ref b96), (.ref b96)])) rfl rfl (hb hby at_261)
        have K120 : ∀ t, Steps p.tables e below (T120.setTop (mkF m 262 #[.val (.int p0), .val (.int p1), .val (.int p2), .val (.int p3), .val (.int p4), .val (.int (1 : Int32)), .val (.int cx), .val (.int cy), .val (.int cz), .unset, .unset, .val (.ref b11), .val (.int pp), .unset] [(.ref b96)])) t → Steps p.tables e below G0 t := fun t kt => K118 t (st120 _ kt)
        have Z120 : n0 ≤ h120.size := Nat.le_trans Z117 (Keep.of_wr W120).1
        have VL120 : Arv Z h120 b96 k96 .char (10 : Int32) [(.int (nar .char (116 : Int32))), (.int (nar .char (101 : Int32))), (.int (nar .char (120 : Int32))), (.int (nar .char (116 : Int32))), (.int (nar .char (47 : Int32))), (.int (nar .char (104 : Int32))), (.int (nar .char (116 : Int32))), (.int (nar .char (109 : Int32))), (.int (0 : Int32)), (.int (0 : Int32))] (.int (0 : Int32)) := Arv.set Ar119 qq119 S119 M119 H119 GG119 (fits_nar_char _) W120 7 rfl (Nat.le_of_ble_eq_true rfl)
        have N120 := Fr.snoc X120 N117 gn96
        have K121 : ∀ t, Steps p.tables e below (T120.setTop (mkF m 267 #[.val (.int p0), .val (.int p1), .val (.int p2), .val (.int p3), .val (.int p4), .val (.int (1 : Int32)), .val (.int cx), .val (.int cy), .val (.int cz), .unset, .unset, .val (.ref b11), .val (.int pp), .unset] [(.int (108 : Int32)), (.int (8 : Int32)), (.ref b96), (.ref b96)])) t → Steps p.tables e below G0 t := by
          intro t kt
          refine K120 t ?_
          refine XS.dup X120.here hx rfl (hb hby at_262) rfl rfl ?_
          show Steps p.tables e below (T120.setTop (mkF m 263 #[.val (.int p0), .val (.int p1), .val (.int p2), .val (.int p3), .val (.int p4), .val (.int (1 : Int32)), .val (.int cx), .val (.int cy), .val (.int cz), .unset, .unset, .val (.ref b11), .val (.int pp), .unset] [(.ref b96), (.ref b96)])) _
          refine XS.bipush X120.here hx rfl (hb hby at_263) ?_
          show Steps p.tables e below (T120.setTop (mkF m 265 #[.val (.int p0), .val (.int p1), .val (.int p2), .val (.int p3), .val (.int p4), .val (.int (1 : Int32)), .val (.int cx), .val (.int cy), .val (.int cz), .unset, .unset, .val (.ref b11), .val (.int pp), .unset] [(.int (8 : Int32)), (.ref b96), (.ref b96)])) _
          refine XS.bipush X120.here hx rfl (hb hby at_265) ?_
          show Steps p.tables e below (T120.setTop (mkF m 267 #[.val (.int p0), .val (.int p1), .val (.int p2), .val (.int p3), .val (.int p4), .val (.int (1 : Int32)), .val (.int cx), .val (.int cy), .val (.int cz), .unset, .unset, .val (.ref b11), .val (.int pp), .unset] [(.int (108 : Int32)), (.int (8 : Int32)), (.ref b96), (.ref b96)])) _
          exact kt
        obtain ⟨cl122, Ar122, qq122, S122, M122, H122, GG122⟩ := id VL120
        have hin122 : ¬ ((8 : Int32) < 0 ∨ cl122.slots.size ≤ ((8 : Int32)).toNatClampNeg) := inb_of S122 ⟨by decide, by decide⟩
        obtain ⟨T123, h123, X123, e123, W123, st123⟩ := stC X120 hx hZ e120 Ar122 (j := (8 : Int32)) hin122 (g := (mkF m 267 #[.val (.int p0), .val (.int p1), .val (.int p2), .val (.int p3), .val (.int p4), .val (.int (1 : Int32)), .val (.int cx), .val (.int cy), .val (.int cz), .unset, .unset, .val (.ref b11), .val (.int pp), .unset] [(.int (108 : Int32)), (.int (8 : Int32)), (.ref b96), (.ref b96)])) rfl rfl (hb hby at_267)
        have K123 : ∀ t, Steps p.tables e below (T123.setTop (mkF m 268 #[.val (.int p0), .val (.int p1), .val (.int p2), .val (.int p3), .val (.int p4), .val (.int (1 : Int32)), .val (.int cx), .val (.int cy), .val (.int cz), .unset, .unset, .val (.ref b11), .val (.int pp), .unset] [(.ref b96)])) t → Steps p.tables e below G0 t := fun t kt => K121 t (st123 _ kt)
        have Z123 : n0 ≤ h123.size := Nat.le_trans Z120 (Keep.of_wr W123).1
        have VL123 : Arv Z h123 b96 k96 .char (10 : Int32) [(.int (nar .char (116 : Int32))), (.int (nar .char (101 : Int32))), (.int (nar .char (120 : Int32))), (.int (nar .char (116 : Int32))), (.int (nar .char (47 : Int32))), (.int (nar .char (104 : Int32))), (.int (nar .char (116 : Int32))), (.int (nar .char (109 : Int32))), (.int (nar .char (108 : Int32))), (.int (0 : Int32))] (.int (0 : Int32)) := Arv.set Ar122 qq122 S122 M122 H122 GG122 (fits_nar_char _) W123 8 rfl (Nat.le_of_ble_eq_true rfl)
        have N123 := Fr.snoc X123 N120 gn96
        have K124 : ∀ t, Steps p.tables e below (T123.setTop (mkF m 273 #[.val (.int p0), .val (.int p1), .val (.int p2), .val (.int p3), .val (.int p4), .val (.int (1 : Int32)), .val (.int cx), .val (.int cy), .val (.int cz), .unset, .unset, .val (.ref b11), .val (.int pp), .unset] [(.int cx), (.int (9 : Int32)), (.ref b96), (.ref b96)])) t → Steps p.tables e below G0 t := by
          intro t kt
          refine K123 t ?_
          refine XS.dup X123.here hx rfl (hb hby at_268) rfl rfl ?_
          show Steps p.tables e below (T123.setTop (mkF m 269 #[.val (.int p0), .val (.int p1), .val (.int p2), .val (.int p3), .val (.int p4), .val (.int (1 : Int32)), .val (.int cx), .val (.int cy), .val (.int cz), .unset, .unset, .val (.ref b11), .val (.int pp), .unset] [(.ref b96), (.ref b96)])) _
          refine XS.bipush X123.here hx rfl (hb hby at_269) ?_
          show Steps p.tables e below (T123.setTop (mkF m 271 #[.val (.int p0), .val (.int p1), .val (.int p2), .val (.int p3), .val (.int p4), .val (.int (1 : Int32)), .val (.int cx), .val (.int cy), .val (.int cz), .unset, .unset, .val (.ref b11), .val (.int pp), .unset] [(.int (9 : Int32)), (.ref b96), (.ref b96)])) _
          refine XS.iload X123.here hx rfl (hb hby at_271) rfl ?_
          show Steps p.tables e below (T123.setTop (mkF m 273 #[.val (.int p0), .val (.int p1), .val (.int p2), .val (.int p3), .val (.int p4), .val (.int (1 : Int32)), .val (.int cx), .val (.int cy), .val (.int cz), .unset, .unset, .val (.ref b11), .val (.int pp), .unset] [(.int cx), (.int (9 : Int32)), (.ref b96), (.ref b96)])) _
          exact kt
        obtain ⟨cl125, Ar125, qq125, S125, M125, H125, GG125⟩ := id VL123
        have hin125 : ¬ ((9 : Int32) < 0 ∨ cl125.slots.size ≤ ((9 : Int32)).toNatClampNeg) := inb_of S125 ⟨by decide, by decide⟩
        obtain ⟨T126, h126, X126, e126, W126, st126⟩ := stC X123 hx hZ e123 Ar125 (j := (9 : Int32)) hin125 (g := (mkF m 273 #[.val (.int p0), .val (.int p1), .val (.int p2), .val (.int p3), .val (.int p4), .val (.int (1 : Int32)), .val (.int cx), .val (.int cy), .val (.int cz), .unset, .unset, .val (.ref b11), .val (.int pp), .unset] [(.int cx), (.int (9 : Int32)), (.ref b96), (.ref b96)])) rfl rfl (hb hby at_273)
        have K126 : ∀ t, Steps p.tables e below (T126.setTop (mkF m 274 #[.val (.int p0), .val (.int p1), .val (.int p2), .val (.int p3), .val (.int p4), .val (.int (1 : Int32)), .val (.int cx), .val (.int cy), .val (.int cz), .unset, .unset, .val (.ref b11), .val (.int pp), .unset] [(.ref b96)])) t → Steps p.tables e below G0 t := fun t kt => K124 t (st126 _ kt)
        have Z126 : n0 ≤ h126.size := Nat.le_trans Z123 (Keep.of_wr W126).1
        have VL126 : Arv Z h126 b96 k96 .char (10 : Int32) [(.int (nar .char (116 : Int32))), (.int (nar .char (101 : Int32))), (.int (nar .char (120 : Int32))), (.int (nar .char (116 : Int32))), (.int (nar .char (47 : Int32))), (.int (nar .char (104 : Int32))), (.int (nar .char (116 : Int32))), (.int (nar .char (109 : Int32))), (.int (nar .char (108 : Int32))), (.int (nar .char cx))] (.int (0 : Int32)) := Arv.set Ar125 qq125 S125 M125 H125 GG125 (fits_nar_char _) W126 9 rfl (Nat.le_of_ble_eq_true rfl)
        have N126 := Fr.snoc X126 N123 gn96
        have K127 : ∀ t, Steps p.tables e below (T126.setTop (mkF m 276 #[.val (.int p0), .val (.int p1), .val (.int p2), .val (.int p3), .val (.int p4), .val (.int (1 : Int32)), .val (.int cx), .val (.int cy), .val (.int cz), .unset, .unset, .val (.ref b11), .val (.int pp), .val (.ref b96)] [])) t → Steps p.tables e below G0 t := by
          intro t kt
          refine K126 t ?_
          refine XS.astore X126.here hx rfl (hb hby at_274) rfl rfl (l' := #[.val (.int p0), .val (.int p1), .val (.int p2), .val (.int p3), .val (.int p4), .val (.int (1 : Int32)), .val (.int cx), .val (.int cy), .val (.int cz), .unset, .unset, .val (.ref b11), .val (.int pp), .val (.ref b96)]) rfl ?_
          show Steps p.tables e below (T126.setTop (mkF m 276 #[.val (.int p0), .val (.int p1), .val (.int p2), .val (.int p3), .val (.int p4), .val (.int (1 : Int32)), .val (.int cx), .val (.int cy), .val (.int cz), .unset, .unset, .val (.ref b11), .val (.int pp), .val (.ref b96)] [])) _
          exact kt
        have f128 := (((((((((((VL38.ext E96).other W99 ne_b11_b96).other W102 ne_b11_b96).other W105 ne_b11_b96).other W108 ne_b11_b96).other W111 ne_b11_b96).other W114 ne_b11_b96).other W117 ne_b11_b96).other W120 ne_b11_b96).other W123 ne_b11_b96).other W126 ne_b11_b96)
        obtain ⟨T129, h129, X129, e129, E129, A129, D129, -, st129⟩ := newO X126 hx hZ hown (hw _ (List.mem_of_getElem? (i := 32) rfl)) (hw _ (List.mem_of_getElem? (i := 3) rfl)) (hw _ (List.mem_of_getElem? (i := 2) rfl)) e126 (g := (mkF m 276 #[.val (.int p0), .val (.int p1), .val (.int p2), .val (.int p3), .val (.int p4), .val (.int (1 : Int32)), .val (.int cx), .val (.int cy), .val (.int cz), .unset, .unset, .val (.ref b11), .val (.int pp), .val (.ref b96)] [])) rfl (hb hby at_276) (by decide) (by decide)
        obtain ⟨b129, g129⟩ : ∃ z, z = h126.size := ⟨_, rfl⟩
        rw [← g129] at A129 D129 st129
        have gn129 : n0 ≤ b129 := Nat.le_trans Z126 (Nat.le_of_eq g129.symm)
        have Z129 : n0 ≤ h129.size := Nat.le_trans Z126 E129.1
        have K129 : ∀ t, Steps p.tables e below (T129.setTop (mkF m 279 #[.val (.int p0), .val (.int p1), .val (.int p2), .val (.int p3), .val (.int p4), .val (.int (1 : Int32)), .val (.int cx), .val (.int cy), .val (.int cz), .unset, .unset, .val (.ref b11), .val (.int pp), .val (.ref b96)] [(.ref b129)])) t → Steps p.tables e below G0 t := fun t kt => K127 t (st129 _ kt)
        have ne_b11_b129 : b11 ≠ b129 := Nat.ne_of_lt (Nat.lt_of_lt_of_le (f128).lt (Nat.le_of_eq g129.symm))
        have ne_b96_b129 : b96 ≠ b129 := Nat.ne_of_lt (Nat.lt_of_lt_of_le (VL126).lt (Nat.le_of_eq g129.symm))
        have F_value_b129 := (D129 (Or.inr (hw _ (List.mem_of_getElem? (i := 5) rfl))) (ty := (.array .byte)) (by decide) : Fld Z h129 b129 "java/lang/String" "value" "[B" .null)
        have F_coder_b129 := (D129 (Or.inr (hw _ (List.mem_of_getElem? (i := 6) rfl))) (ty := .byte) (by decide) : Fld Z h129 b129 "java/lang/String" "coder" "B" (.int (0 : Int32)))
        have hpc : ∀ c ∈ ([(nar .char (116 : Int32)), (nar .char (101 : Int32)), (nar .char (120 : Int32)), (nar .char (116 : Int32)), (nar .char (47 : Int32)), (nar .char (104 : Int32)), (nar .char (116 : Int32)), (nar .char (109 : Int32)), (nar .char (108 : Int32)), (nar .char cx)] : List Int32), ¬ c < 0 ∧ ¬ (255 : Int32) < c := (by intro c hc; simp only [List.mem_cons, List.not_mem_nil, or_false] at hc; rcases hc with rfl | rfl | rfl | rfl | rfl | rfl | rfl | rfl | rfl | rfl; all_goals first | exact b_cx | exact b_cy | exact b_cz | decide)
        have K130 : ∀ t, Steps p.tables e below (T129.setTop (mkF m 282 #[.val (.int p0), .val (.int p1), .val (.int p2), .val (.int p3), .val (.int p4), .val (.int (1 : Int32)), .val (.int cx), .val (.int cy), .val (.int cz), .unset, .unset, .val (.ref b11), .val (.int pp), .val (.ref b96)] [(.ref b96), (.ref b129), (.ref b129)])) t → Steps p.tables e below G0 t := by
          intro t kt
          refine K129 t ?_
          refine XS.dup X129.here hx rfl (hb hby at_279) rfl rfl ?_
          show Steps p.tables e below (T129.setTop (mkF m 280 #[.val (.int p0), .val (.int p1), .val (.int p2), .val (.int p3), .val (.int p4), .val (.int (1 : Int32)), .val (.int cx), .val (.int cy), .val (.int cz), .unset, .unset, .val (.ref b11), .val (.int pp), .val (.ref b96)] [(.ref b129), (.ref b129)])) _
          refine XS.aload X129.here hx rfl (hb hby at_280) rfl rfl ?_
          show Steps p.tables e below (T129.setTop (mkF m 282 #[.val (.int p0), .val (.int p1), .val (.int p2), .val (.int p3), .val (.int p4), .val (.int (1 : Int32)), .val (.int cx), .val (.int cy), .val (.int cz), .unset, .unset, .val (.ref b11), .val (.int pp), .val (.ref b96)] [(.ref b96), (.ref b129), (.ref b129)])) _
          exact kt
        have f131 := (VL126.ext E129)
        have f132 := ((((((((((((((((((((((HO.ext E11).wr W14 gn11).wr W17 gn11).wr W20 gn11).wr W23 gn11).wr W26 gn11).wr W29 gn11).wr W32 gn11).wr W35 gn11).wr W38 gn11).ext E96).wr W99 gn96).wr W102 gn96).wr W105 gn96).wr W108 gn96).wr W111 gn96).wr W114 gn96).wr W117 gn96).wr W120 gn96).wr W123 gn96).wr W126 gn96).ext E129)
        obtain ⟨v133, _, ⟨T133, L133, k133, n133⟩, -, X133, ⟨Lc133, hQ133, l133, y133, z133⟩, st133⟩ := X129.specialBack hx (y := (⟨"java/lang/String", "<init>", "([C)V"⟩ : MethodName)) rfl hown (mvT hZ (hw _ (List.mem_of_getElem? (i := 34) rfl))) (mvT hZ (hw _ (List.mem_of_getElem? (i := 35) rfl))) (mvT hZ (hw _ (List.mem_of_getElem? (i := 36) rfl))) (by decide) (StrChars.Road.backV (W := 1) hZ (own_wsV hw) (kI := 4) (hw _ (List.mem_of_getElem? (i := 3) rfl)) (cs := [(nar .char (116 : Int32)), (nar .char (101 : Int32)), (nar .char (120 : Int32)), (nar .char (116 : Int32)), (nar .char (47 : Int32)), (nar .char (104 : Int32)), (nar .char (116 : Int32)), (nar .char (109 : Int32)), (nar .char (108 : Int32)), (nar .char cx)]) (bs := ([(nar .char (116 : Int32)), (nar .char (101 : Int32)), (nar .char (120 : Int32)), (nar .char (116 : Int32)), (nar .char (47 : Int32)), (nar .char (104 : Int32)), (nar .char (116 : Int32)), (nar .char (109 : Int32)), (nar .char (108 : Int32)), (nar .char cx)] : List Int32).map (fun c => c.toInt8.toInt32)) (n := 10) gn129 Z129 A129 F_value_b129 F_coder_b129 f131 (O2.ext f132.2) P5 rfl rfl (by decide) (by decide) hpc rfl (by decide) (by decide)) (g := (mkF m 282 #[.val (.int p0), .val (.int p1), .val (.int p2), .val (.int p3), .val (.int p4), .val (.int (1 : Int32)), .val (.int cx), .val (.int cy), .val (.int cz), .unset, .unset, .val (.ref b11), .val (.int pp), .val (.ref b96)] [(.ref b96), (.ref b129), (.ref b129)])) rfl (by rw [hml]; rfl) (Steps.refl _) (a := b129) (argsL := [(.ref b96)]) (rest := [(.ref b129)]) (lenOf pd_P_CQV rfl) rfl (by show 2 * 0 + _ ≤ _; exact Nat.le_of_eq rfl) (hb hby at_282) (fun _ _ => ⟨rfl, e129, (by decide : 3 + 1 ≤ _), (by decide : 23 + 10 ≤ _)⟩)
        dsimp only [Pt.U, Pt.locs, Pt.cells, Pt.slots] at X133 l133 y133 z133 st133 hQ133
        subst l133 y133 z133
        obtain ⟨rfl, N133q, KV133, EX133, CO133, tt133, kb133, -, -, -, VV133, KK133⟩ := hQ133
        have N133 := Fr.app N126 N133q
        have K133 : ∀ t, Steps p.tables e below (T133.setTop (mkF m 285 #[.val (.int p0), .val (.int p1), .val (.int p2), .val (.int p3), .val (.int p4), .val (.int (1 : Int32)), .val (.int cx), .val (.int cy), .val (.int cz), .unset, .unset, .val (.ref b11), .val (.int pp), .val (.ref b96)] [(.ref b129)])) t → Steps p.tables e below G0 t := fun t kt => K130 t (st133.trans kt)
        have Z133 : n0 ≤ T133.heap.size := Nat.le_trans Z129 KV133.1
        have sn133 : own_Str Z T133.heap b129 [(nar .char (116 : Int32)), (nar .char (101 : Int32)), (nar .char (120 : Int32)), (nar .char (116 : Int32)), (nar .char (47 : Int32)), (nar .char (104 : Int32)), (nar .char (116 : Int32)), (nar .char (109 : Int32)), (nar .char (108 : Int32)), (nar .char cx)] := ⟨EX133, CO133, ⟨_, _, VV133, KK133⟩, hpc, Nat.le_of_ble_eq_true rfl⟩
        have K134 : ∀ t, Steps p.tables e below (T133.setTop (mkF m 510 #[.val (.int p0), .val (.int p1), .val (.int p2), .val (.int p3), .val (.int p4), .val (.int (1 : Int32)), .val (.int cx), .val (.int cy), .val (.int cz), .val (.ref b129), .val (.int (0 : Int32)), .val (.ref b11), .val (.int pp), .val (.ref b96)] [])) t → Steps p.tables e below G0 t := by
          intro t kt
          refine K133 t ?_
          refine XS.astore X133.here hx rfl (hb hby at_285) rfl rfl (l' := #[.val (.int p0), .val (.int p1), .val (.int p2), .val (.int p3), .val (.int p4), .val (.int (1 : Int32)), .val (.int cx), .val (.int cy), .val (.int cz), .val (.ref b129), .unset, .val (.ref b11), .val (.int pp), .val (.ref b96)]) rfl ?_
          show Steps p.tables e below (T133.setTop (mkF m 287 #[.val (.int p0), .val (.int p1), .val (.int p2), .val (.int p3), .val (.int p4), .val (.int (1 : Int32)), .val (.int cx), .val (.int cy), .val (.int cz), .val (.ref b129), .unset, .val (.ref b11), .val (.int pp), .val (.ref b96)] [])) _
          refine XS.iconst X133.here hx rfl (hb hby at_287) ?_
          show Steps p.tables e below (T133.setTop (mkF m 288 #[.val (.int p0), .val (.int p1), .val (.int p2), .val (.int p3), .val (.int p4), .val (.int (1 : Int32)), .val (.int cx), .val (.int cy), .val (.int cz), .val (.ref b129), .unset, .val (.ref b11), .val (.int pp), .val (.ref b96)] [(.int (0 : Int32))])) _
          refine XS.istore X133.here hx rfl (hb hby at_288) rfl (l' := #[.val (.int p0), .val (.int p1), .val (.int p2), .val (.int p3), .val (.int p4), .val (.int (1 : Int32)), .val (.int cx), .val (.int cy), .val (.int cz), .val (.ref b129), .val (.int (0 : Int32)), .val (.ref b11), .val (.int pp), .val (.ref b96)]) rfl ?_
          show Steps p.tables e below (T133.setTop (mkF m 290 #[.val (.int p0), .val (.int p1), .val (.int p2), .val (.int p3), .val (.int p4), .val (.int (1 : Int32)), .val (.int cx), .val (.int cy), .val (.int cz), .val (.ref b129), .val (.int (0 : Int32)), .val (.ref b11), .val (.int pp), .val (.ref b96)] [])) _
          refine XS.goto X133.here hx rfl (pc0 := 290) (pc' := 510) rfl (hb hby at_290) (by decide) (by decide) ?_
          show Steps p.tables e below (T133.setTop (mkF m 510 #[.val (.int p0), .val (.int p1), .val (.int p2), .val (.int p3), .val (.int p4), .val (.int (1 : Int32)), .val (.int cx), .val (.int cy), .val (.int cz), .val (.ref b129), .val (.int (0 : Int32)), .val (.ref b11), .val (.int pp), .val (.ref b96)] [])) _
          exact kt
        have KQ135_0 := Keep.refl h0 []
        have sz135_11 := Nat.le_trans KQ135_0.1 (Nat.le_of_eq g11.symm)
        have KQ135_1 := KQ135_0.ext E11
        have KQ135_2 := KQ135_1.wr W14 (Or.inr sz135_11)
        have KQ135_3 := KQ135_2.wr W17 (Or.inr sz135_11)
        have KQ135_4 := KQ135_3.wr W20 (Or.inr sz135_11)
        have KQ135_5 := KQ135_4.wr W23 (Or.inr sz135_11)
        have KQ135_6 := KQ135_5.wr W26 (Or.inr sz135_11)
        have KQ135_7 := KQ135_6.wr W29 (Or.inr sz135_11)
        have KQ135_8 := KQ135_7.wr W32 (Or.inr sz135_11)
        have KQ135_9 := KQ135_8.wr W35 (Or.inr sz135_11)
        have KQ135_10 := KQ135_9.wr W38 (Or.inr sz135_11)
        have sz135_96 := Nat.le_trans KQ135_10.1 (Nat.le_of_eq g96.symm)
        have KQ135_11 := KQ135_10.ext E96
        have KQ135_12 := KQ135_11.wr W99 (Or.inr sz135_96)
        have KQ135_13 := KQ135_12.wr W102 (Or.inr sz135_96)
        have KQ135_14 := KQ135_13.wr W105 (Or.inr sz135_96)
        have KQ135_15 := KQ135_14.wr W108 (Or.inr sz135_96)
        have KQ135_16 := KQ135_15.wr W111 (Or.inr sz135_96)
        have KQ135_17 := KQ135_16.wr W114 (Or.inr sz135_96)
        have KQ135_18 := KQ135_17.wr W117 (Or.inr sz135_96)
        have KQ135_19 := KQ135_18.wr W120 (Or.inr sz135_96)
        have KQ135_20 := KQ135_19.wr W123 (Or.inr sz135_96)
        have KQ135_21 := KQ135_20.wr W126 (Or.inr sz135_96)
        have sz135_129 := Nat.le_trans KQ135_21.1 (Nat.le_of_eq g129.symm)
        have KQ135_22 := KQ135_21.ext E129
        have KQ135_23 := KQ135_22.trans KV133 (fun x hx => by simp only [List.mem_cons, List.not_mem_nil, or_false] at hx; rcases hx with rfl <;> first | exact (Or.inr sz135_129))
        have CH136 := CH0.trans (CHr.keep KQ135_23 sf0 CH0.1)
        have f137 := (Nat.le_trans (Nat.le_trans (Nat.le_trans (Nat.le_trans (Nat.le_trans (Nat.le_trans (Nat.le_trans (Nat.le_trans (Nat.le_trans (Nat.le_trans (Nat.le_trans (Nat.le_trans (Nat.le_trans (Nat.le_trans (Nat.le_trans (Nat.le_trans (Nat.le_trans (Nat.le_trans (Nat.le_trans (Nat.le_trans (Nat.le_trans (Nat.le_trans (Nat.le_trans hk0 E11.1) (Keep.of_wr W14).1) (Keep.of_wr W17).1) (Keep.of_wr W20).1) (Keep.of_wr W23).1) (Keep.of_wr W26).1) (Keep.of_wr W29).1) (Keep.of_wr W32).1) (Keep.of_wr W35).1) (Keep.of_wr W38).1) E96.1) (Keep.of_wr W99).1) (Keep.of_wr W102).1) (Keep.of_wr W105).1) (Keep.of_wr W108).1) (Keep.of_wr W111).1) (Keep.of_wr W114).1) (Keep.of_wr W117).1) (Keep.of_wr W120).1) (Keep.of_wr W123).1) (Keep.of_wr W126).1) E129.1) KV133.1)
        have f138 := (f132.keep KV133 (fun x hx => by cases List.mem_singleton.mp hx; exact gn129))
        have hq : own_q [(nar .char (116 : Int32)), (nar .char (101 : Int32)), (nar .char (120 : Int32)), (nar .char (116 : Int32)), (nar .char (47 : Int32)), (nar .char (104 : Int32)), (nar .char (116 : Int32)), (nar .char (109 : Int32)), (nar .char (108 : Int32)), (nar .char cx)] own_html = (0 : Int32) := own_len (by simp)
        exact ⟨_, _, _, _, _, b129, [(nar .char (116 : Int32)), (nar .char (101 : Int32)), (nar .char (120 : Int32)), (nar .char (116 : Int32)), (nar .char (47 : Int32)), (nar .char (104 : Int32)), (nar .char (116 : Int32)), (nar .char (109 : Int32)), (nar .char (108 : Int32)), (nar .char cx)], .val (.ref b11), .val (.int pp), .val (.ref b96), X133.more (Nat.le_of_ble_eq_true rfl) (Nat.le_of_ble_eq_true rfl), (rfl : T133.heap = _), N133, Z133, hS0, f137, hZ, hown, CH136, f138, sn133, (One.val rfl), fun t kt => K134 t (by rw [hq, hk5] at kt; exact kt)⟩
    ·
      rw [hk5] at K4
      have K139 : ∀ t, Steps p.tables e below (s₁.setTop (mkF m 306 #[.val (.int p0), .val (.int p1), .val (.int p2), .val (.int p3), .val (.int p4), .val (.int (2 : Int32)), .val (.int cx), .val (.int cy), .val (.int cz), .unset, .unset, .val (.int (p1 &&& (3 : Int32))), .unset, .unset] [(.int (p1 &&& (3 : Int32)))])) t → Steps p.tables e below G0 t := by
        intro t kt
        refine K4 t ?_
        refine XS.iload X0.here hx rfl (hb hby at_33) rfl ?_
        show Steps p.tables e below (s₁.setTop (mkF m 35 #[.val (.int p0), .val (.int p1), .val (.int p2), .val (.int p3), .val (.int p4), .val (.int (2 : Int32)), .val (.int cx), .val (.int cy), .val (.int cz), .unset, .unset, .unset, .unset, .unset] [(.int (2 : Int32))])) _
        refine XS.ifYes X0.here hx rfl (pc0 := 35) (pc' := 48) rfl (hb hby at_35) rfl ((if0 _ _).trans (feq (by decide)).2) (by decide) (by decide) ?_
        show Steps p.tables e below (s₁.setTop (mkF m 48 #[.val (.int p0), .val (.int p1), .val (.int p2), .val (.int p3), .val (.int p4), .val (.int (2 : Int32)), .val (.int cx), .val (.int cy), .val (.int cz), .unset, .unset, .unset, .unset, .unset] [])) _
        refine XS.iload X0.here hx rfl (hb hby at_48) rfl ?_
        show Steps p.tables e below (s₁.setTop (mkF m 50 #[.val (.int p0), .val (.int p1), .val (.int p2), .val (.int p3), .val (.int p4), .val (.int (2 : Int32)), .val (.int cx), .val (.int cy), .val (.int cz), .unset, .unset, .unset, .unset, .unset] [(.int (2 : Int32))])) _
        refine XS.iconst X0.here hx rfl (hb hby at_50) ?_
        show Steps p.tables e below (s₁.setTop (mkF m 51 #[.val (.int p0), .val (.int p1), .val (.int p2), .val (.int p3), .val (.int p4), .val (.int (2 : Int32)), .val (.int cx), .val (.int cy), .val (.int cz), .unset, .unset, .unset, .unset, .unset] [(.int (1 : Int32)), (.int (2 : Int32))])) _
        refine XS.icmpYes X0.here hx rfl (pc0 := 51) (pc' := 293) rfl (hb hby at_51) rfl (feq (by decide)).2 (by decide) (by decide) ?_
        show Steps p.tables e below (s₁.setTop (mkF m 293 #[.val (.int p0), .val (.int p1), .val (.int p2), .val (.int p3), .val (.int p4), .val (.int (2 : Int32)), .val (.int cx), .val (.int cy), .val (.int cz), .unset, .unset, .unset, .unset, .unset] [])) _
        refine XS.iload X0.here hx rfl (hb hby at_293) rfl ?_
        show Steps p.tables e below (s₁.setTop (mkF m 295 #[.val (.int p0), .val (.int p1), .val (.int p2), .val (.int p3), .val (.int p4), .val (.int (2 : Int32)), .val (.int cx), .val (.int cy), .val (.int cz), .unset, .unset, .unset, .unset, .unset] [(.int (2 : Int32))])) _
        refine XS.iconst X0.here hx rfl (hb hby at_295) ?_
        show Steps p.tables e below (s₁.setTop (mkF m 296 #[.val (.int p0), .val (.int p1), .val (.int p2), .val (.int p3), .val (.int p4), .val (.int (2 : Int32)), .val (.int cx), .val (.int cy), .val (.int cz), .unset, .unset, .unset, .unset, .unset] [(.int (2 : Int32)), (.int (2 : Int32))])) _
        refine XS.icmpNo X0.here hx rfl (hb hby at_296) rfl (teq (by decide)).2 ?_
        show Steps p.tables e below (s₁.setTop (mkF m 299 #[.val (.int p0), .val (.int p1), .val (.int p2), .val (.int p3), .val (.int p4), .val (.int (2 : Int32)), .val (.int cx), .val (.int cy), .val (.int cz), .unset, .unset, .unset, .unset, .unset] [])) _
        refine XS.iloadN X0.here hx rfl (hb hby at_299) rfl ?_
        show Steps p.tables e below (s₁.setTop (mkF m 300 #[.val (.int p0), .val (.int p1), .val (.int p2), .val (.int p3), .val (.int p4), .val (.int (2 : Int32)), .val (.int cx), .val (.int cy), .val (.int cz), .unset, .unset, .unset, .unset, .unset] [(.int p1)])) _
        refine XS.iconst X0.here hx rfl (hb hby at_300) ?_
        show Steps p.tables e below (s₁.setTop (mkF m 301 #[.val (.int p0), .val (.int p1), .val (.int p2), .val (.int p3), .val (.int p4), .val (.int (2 : Int32)), .val (.int cx), .val (.int cy), .val (.int cz), .unset, .unset, .unset, .unset, .unset] [(.int (3 : Int32)), (.int p1)])) _
        refine XS.iand X0.here hx rfl (hb hby at_301) rfl ?_
        show Steps p.tables e below (s₁.setTop (mkF m 302 #[.val (.int p0), .val (.int p1), .val (.int p2), .val (.int p3), .val (.int p4), .val (.int (2 : Int32)), .val (.int cx), .val (.int cy), .val (.int cz), .unset, .unset, .unset, .unset, .unset] [(.int (p1 &&& (3 : Int32)))])) _
        refine XS.istore X0.here hx rfl (hb hby at_302) rfl (l' := #[.val (.int p0), .val (.int p1), .val (.int p2), .val (.int p3), .val (.int p4), .val (.int (2 : Int32)), .val (.int cx), .val (.int cy), .val (.int cz), .unset, .unset, .val (.int (p1 &&& (3 : Int32))), .unset, .unset]) rfl ?_
        show Steps p.tables e below (s₁.setTop (mkF m 304 #[.val (.int p0), .val (.int p1), .val (.int p2), .val (.int p3), .val (.int p4), .val (.int (2 : Int32)), .val (.int cx), .val (.int cy), .val (.int cz), .unset, .unset, .val (.int (p1 &&& (3 : Int32))), .unset, .unset] [])) _
        refine XS.iload X0.here hx rfl (hb hby at_304) rfl ?_
        show Steps p.tables e below (s₁.setTop (mkF m 306 #[.val (.int p0), .val (.int p1), .val (.int p2), .val (.int p3), .val (.int p4), .val (.int (2 : Int32)), .val (.int cx), .val (.int cy), .val (.int cz), .unset, .unset, .val (.int (p1 &&& (3 : Int32))), .unset, .unset] [(.int (p1 &&& (3 : Int32)))])) _
        exact kt
      obtain ⟨nn, h_nn⟩ : ∃ z, z = (p1 &&& (3 : Int32)) := ⟨_, rfl⟩
      rw [← h_nn] at K139
      rcases own_n3 h_nn with hn4 | hn4 | hn4 | hn4
      ·
        rw [hn4] at K139
        have K140 : ∀ t, Steps p.tables e below (s₁.setTop (mkF m 309 #[.val (.int p0), .val (.int p1), .val (.int p2), .val (.int p3), .val (.int p4), .val (.int (2 : Int32)), .val (.int cx), .val (.int cy), .val (.int cz), .unset, .unset, .val (.int (0 : Int32)), .unset, .unset] [])) t → Steps p.tables e below G0 t := by
          intro t kt
          refine K139 t ?_
          refine XS.ifNo X0.here hx rfl (hb hby at_306) rfl ((if0 _ _).trans (teq (by decide)).2) ?_
          show Steps p.tables e below (s₁.setTop (mkF m 309 #[.val (.int p0), .val (.int p1), .val (.int p2), .val (.int p3), .val (.int p4), .val (.int (2 : Int32)), .val (.int cx), .val (.int cy), .val (.int cz), .unset, .unset, .val (.int (0 : Int32)), .unset, .unset] [])) _
          exact kt
        obtain ⟨T141, h141, X141, e141, E141, A141, D141, -, st141⟩ := newO X0 hx hZ hown (hw _ (List.mem_of_getElem? (i := 32) rfl)) (hw _ (List.mem_of_getElem? (i := 3) rfl)) (hw _ (List.mem_of_getElem? (i := 2) rfl)) e0 (g := (mkF m 309 #[.val (.int p0), .val (.int p1), .val (.int p2), .val (.int p3), .val (.int p4), .val (.int (2 : Int32)), .val (.int cx), .val (.int cy), .val (.int cz), .unset, .unset, .val (.int (0 : Int32)), .unset, .unset] [])) rfl (hb hby at_309) (by decide) (by decide)
        obtain ⟨b141, g141⟩ : ∃ z, z = h0.size := ⟨_, rfl⟩
        rw [← g141] at A141 D141 st141
        have gn141 : n0 ≤ b141 := Nat.le_trans Z0 (Nat.le_of_eq g141.symm)
        have Z141 : n0 ≤ h141.size := Nat.le_trans Z0 E141.1
        have K141 : ∀ t, Steps p.tables e below (T141.setTop (mkF m 312 #[.val (.int p0), .val (.int p1), .val (.int p2), .val (.int p3), .val (.int p4), .val (.int (2 : Int32)), .val (.int cx), .val (.int cy), .val (.int cz), .unset, .unset, .val (.int (0 : Int32)), .unset, .unset] [(.ref b141)])) t → Steps p.tables e below G0 t := fun t kt => K140 t (st141 _ kt)
        have F_value_b141 := (D141 (Or.inr (hw _ (List.mem_of_getElem? (i := 5) rfl))) (ty := (.array .byte)) (by decide) : Fld Z h141 b141 "java/lang/String" "value" "[B" .null)
        have F_coder_b141 := (D141 (Or.inr (hw _ (List.mem_of_getElem? (i := 6) rfl))) (ty := .byte) (by decide) : Fld Z h141 b141 "java/lang/String" "coder" "B" (.int (0 : Int32)))
        have K142 : ∀ t, Steps p.tables e below (T141.setTop (mkF m 314 #[.val (.int p0), .val (.int p1), .val (.int p2), .val (.int p3), .val (.int p4), .val (.int (2 : Int32)), .val (.int cx), .val (.int cy), .val (.int cz), .unset, .unset, .val (.int (0 : Int32)), .unset, .unset] [(.int (0 : Int32)), (.ref b141), (.ref b141)])) t → Steps p.tables e below G0 t := by
          intro t kt
          refine K141 t ?_
          refine XS.dup X141.here hx rfl (hb hby at_312) rfl rfl ?_
          show Steps p.tables e below (T141.setTop (mkF m 313 #[.val (.int p0), .val (.int p1), .val (.int p2), .val (.int p3), .val (.int p4), .val (.int (2 : Int32)), .val (.int cx), .val (.int cy), .val (.int cz), .unset, .unset, .val (.int (0 : Int32)), .unset, .unset] [(.ref b141), (.ref b141)])) _
          refine XS.iconst X141.here hx rfl (hb hby at_313) ?_
          show Steps p.tables e below (T141.setTop (mkF m 314 #[.val (.int p0), .val (.int p1), .val (.int p2), .val (.int p3), .val (.int p4), .val (.int (2 : Int32)), .val (.int cx), .val (.int cy), .val (.int cz), .unset, .unset, .val (.int (0 : Int32)), .unset, .unset] [(.int (0 : Int32)), (.ref b141), (.ref b141)])) _
          exact kt
        obtain ⟨T143, h143, k143, X143, e143, E143, A143, st143⟩ := newP X141 hx hZ (hw _ (List.mem_of_getElem? (i := 33) rfl)) e141 (g := (mkF m 314 #[.val (.int p0), .val (.int p1), .val (.int p2), .val (.int p3), .val (.int p4), .val (.int (2 : Int32)), .val (.int cx), .val (.int cy), .val (.int cz), .unset, .unset, .val (.int (0 : Int32)), .unset, .unset] [(.int (0 : Int32)), (.ref b141), (.ref b141)])) rfl (hb hby at_314) rfl (by decide) (cap := 0) (by decide) (by decide) (by decide) (by decide)
        obtain ⟨b143, g143⟩ : ∃ z, z = h141.size := ⟨_, rfl⟩
        rw [← g143] at A143 st143
        have V143 := Arv.new A143 (by decide)
        have gn143 : n0 ≤ b143 := Nat.le_trans Z141 (Nat.le_of_eq g143.symm)
        have Z143 : n0 ≤ h143.size := Nat.le_trans Z141 E143.1
        have K143 : ∀ t, Steps p.tables e below (T143.setTop (mkF m 316 #[.val (.int p0), .val (.int p1), .val (.int p2), .val (.int p3), .val (.int p4), .val (.int (2 : Int32)), .val (.int cx), .val (.int cy), .val (.int cz), .unset, .unset, .val (.int (0 : Int32)), .unset, .unset] [(.ref b143), (.ref b141), (.ref b141)])) t → Steps p.tables e below G0 t := fun t kt => K142 t (st143 _ kt)
        have ne_b141_b143 : b141 ≠ b143 := Nat.ne_of_lt (Nat.lt_of_lt_of_le (A141).lt (Nat.le_of_eq g143.symm))
        have VL143 : Arv Z h143 b143 k143 .char (0 : Int32) [] (.int (0 : Int32)) := V143
        have f144 := (A141.ext E143)
        have f145 := (F_value_b141.ext E143)
        have f146 := (F_coder_b141.ext E143)
        have KQ147_0 := Keep.refl h0 []
        have sz147_141 := Nat.le_trans KQ147_0.1 (Nat.le_of_eq g141.symm)
        have KQ147_1 := KQ147_0.ext E141
        have sz147_143 := Nat.le_trans KQ147_1.1 (Nat.le_of_eq g143.symm)
        have KQ147_2 := KQ147_1.ext E143
        have CH148 := CH0.trans (CHr.keep KQ147_2 sf0 CH0.1)
        have f149 := (Nat.le_trans (Nat.le_trans hk0 E141.1) E143.1)
        obtain ⟨v150, _, ⟨T150, L150, k150, n150⟩, -, Xq150, S2150, g2150, ⟨Lc150, hQ150, l150, y150, z150, CR150⟩, st150⟩ := X143.specialBackS hx (y := (⟨"java/lang/String", "<init>", "([C)V"⟩ : MethodName)) rfl hown (mvT hZ (hw _ (List.mem_of_getElem? (i := 34) rfl))) (mvT hZ (hw _ (List.mem_of_getElem? (i := 35) rfl))) (mvT hZ (hw _ (List.mem_of_getElem? (i := 36) rfl))) (by decide) (backOfSH (W := 1) (rm4e l Z aa hw hEL [] (b141) (b143) _ _ h143 n0 Z143 gn141 f144 f145 f146 VL143) hZ (hw _ (List.mem_of_getElem? (i := 36) rfl)) (hw _ (List.mem_of_getElem? (i := 2) rfl)) (by decide) (by decide) hEL CH148.1) (g := (mkF m 316 #[.val (.int p0), .val (.int p1), .val (.int p2), .val (.int p3), .val (.int p4), .val (.int (2 : Int32)), .val (.int cx), .val (.int cy), .val (.int cz), .unset, .unset, .val (.int (0 : Int32)), .unset, .unset] [(.ref b143), (.ref b141), (.ref b141)])) rfl (by rw [hml]; rfl) (Steps.refl _) (a := b141) (argsL := [(.ref b143)]) (rest := [(.ref b141)]) (lenOf pd_P_CQV rfl) rfl (by show 2 * 0 + _ ≤ _; exact Nat.le_of_eq rfl) (hb hby at_316) (fun _ _ => ⟨rfl, e143, (by decide : 2 + 4 ≤ _), (by decide : 4 + 8 ≤ _)⟩)
        dsimp only [Pt.U, Pt.locs, Pt.cells, Pt.slots] at Xq150 S2150 g2150 l150 y150 z150 st150 hQ150 CR150
        subst l150 y150 z150
        obtain ⟨X150, hS150, hZ150, hown150⟩ := rebS hS0 (show _ ≤ T143.heap.size by rw [e143]; exact f149) Xq150 S2150 g2150 hZ hown
        have hk150 : T150.heap.size ≤ T150.heap.size := Nat.le_refl _
        have CH150 := CH148.trans CR150
        obtain ⟨rfl, N150q, KV150, SS150⟩ := hQ150
        have N150 := Fr.app N0 N150q
        have K150 : ∀ t, Steps p.tables e below (T150.setTop (mkF m 319 #[.val (.int p0), .val (.int p1), .val (.int p2), .val (.int p3), .val (.int p4), .val (.int (2 : Int32)), .val (.int cx), .val (.int cy), .val (.int cz), .unset, .unset, .val (.int (0 : Int32)), .unset, .unset] [(.ref b141)])) t → Steps p.tables e below G0 t := fun t kt => K143 t (st150.trans kt)
        have Z150 : n0 ≤ T150.heap.size := Nat.le_trans Z143 KV150.1
        have EX150 := SS150.1
        have K151 : ∀ t, Steps p.tables e below (T150.setTop (mkF m 510 #[.val (.int p0), .val (.int p1), .val (.int p2), .val (.int p3), .val (.int p4), .val (.int (2 : Int32)), .val (.int cx), .val (.int cy), .val (.int cz), .val (.ref b141), .val (.int (0 : Int32)), .val (.int (0 : Int32)), .unset, .unset] [])) t → Steps p.tables e below G0 t := by
          intro t kt
          refine K150 t ?_
          refine XS.astore X150.here hx rfl (hb hby at_319) rfl rfl (l' := #[.val (.int p0), .val (.int p1), .val (.int p2), .val (.int p3), .val (.int p4), .val (.int (2 : Int32)), .val (.int cx), .val (.int cy), .val (.int cz), .val (.ref b141), .unset, .val (.int (0 : Int32)), .unset, .unset]) rfl ?_
          show Steps p.tables e below (T150.setTop (mkF m 321 #[.val (.int p0), .val (.int p1), .val (.int p2), .val (.int p3), .val (.int p4), .val (.int (2 : Int32)), .val (.int cx), .val (.int cy), .val (.int cz), .val (.ref b141), .unset, .val (.int (0 : Int32)), .unset, .unset] [])) _
          refine XS.goto X150.here hx rfl (pc0 := 321) (pc' := 408) rfl (hb hby at_321) (by decide) (by decide) ?_
          show Steps p.tables e below (T150.setTop (mkF m 408 #[.val (.int p0), .val (.int p1), .val (.int p2), .val (.int p3), .val (.int p4), .val (.int (2 : Int32)), .val (.int cx), .val (.int cy), .val (.int cz), .val (.ref b141), .unset, .val (.int (0 : Int32)), .unset, .unset] [])) _
          refine XS.iconst X150.here hx rfl (hb hby at_408) ?_
          show Steps p.tables e below (T150.setTop (mkF m 409 #[.val (.int p0), .val (.int p1), .val (.int p2), .val (.int p3), .val (.int p4), .val (.int (2 : Int32)), .val (.int cx), .val (.int cy), .val (.int cz), .val (.ref b141), .unset, .val (.int (0 : Int32)), .unset, .unset] [(.int (0 : Int32))])) _
          refine XS.istore X150.here hx rfl (hb hby at_409) rfl (l' := #[.val (.int p0), .val (.int p1), .val (.int p2), .val (.int p3), .val (.int p4), .val (.int (2 : Int32)), .val (.int cx), .val (.int cy), .val (.int cz), .val (.ref b141), .val (.int (0 : Int32)), .val (.int (0 : Int32)), .unset, .unset]) rfl ?_
          show Steps p.tables e below (T150.setTop (mkF m 411 #[.val (.int p0), .val (.int p1), .val (.int p2), .val (.int p3), .val (.int p4), .val (.int (2 : Int32)), .val (.int cx), .val (.int cy), .val (.int cz), .val (.ref b141), .val (.int (0 : Int32)), .val (.int (0 : Int32)), .unset, .unset] [])) _
          refine XS.goto X150.here hx rfl (pc0 := 411) (pc' := 510) rfl (hb hby at_411) (by decide) (by decide) ?_
          show Steps p.tables e below (T150.setTop (mkF m 510 #[.val (.int p0), .val (.int p1), .val (.int p2), .val (.int p3), .val (.int p4), .val (.int (2 : Int32)), .val (.int cx), .val (.int cy), .val (.int cz), .val (.ref b141), .val (.int (0 : Int32)), .val (.int (0 : Int32)), .unset, .unset] [])) _
          exact kt
        have f152 := (((HO.ext E141).ext E143).keep KV150 (fun x hx => by cases List.mem_singleton.mp hx; exact gn141))
        have hq : own_q [] own_html = (0 : Int32) := by decide
        exact ⟨_, _, _, _, _, b141, [], .val (.int (0 : Int32)), .unset, .unset, X150.more (Nat.le_of_ble_eq_true rfl) (Nat.le_of_ble_eq_true rfl), (rfl : T150.heap = _), N150, Z150, hS150, hk150, hZ150, hown150, CH150, f152, SS150, (One.val rfl), fun t kt => K151 t (by rw [hq, hk5] at kt; exact kt)⟩
      ·
        rw [hn4] at K139
        have K153 : ∀ t, Steps p.tables e below (s₁.setTop (mkF m 330 #[.val (.int p0), .val (.int p1), .val (.int p2), .val (.int p3), .val (.int p4), .val (.int (2 : Int32)), .val (.int cx), .val (.int cy), .val (.int cz), .unset, .unset, .val (.int (1 : Int32)), .unset, .unset] [])) t → Steps p.tables e below G0 t := by
          intro t kt
          refine K139 t ?_
          refine XS.ifYes X0.here hx rfl (pc0 := 306) (pc' := 324) rfl (hb hby at_306) rfl ((if0 _ _).trans (feq (by decide)).2) (by decide) (by decide) ?_
          show Steps p.tables e below (s₁.setTop (mkF m 324 #[.val (.int p0), .val (.int p1), .val (.int p2), .val (.int p3), .val (.int p4), .val (.int (2 : Int32)), .val (.int cx), .val (.int cy), .val (.int cz), .unset, .unset, .val (.int (1 : Int32)), .unset, .unset] [])) _
          refine XS.iload X0.here hx rfl (hb hby at_324) rfl ?_
          show Steps p.tables e below (s₁.setTop (mkF m 326 #[.val (.int p0), .val (.int p1), .val (.int p2), .val (.int p3), .val (.int p4), .val (.int (2 : Int32)), .val (.int cx), .val (.int cy), .val (.int cz), .unset, .unset, .val (.int (1 : Int32)), .unset, .unset] [(.int (1 : Int32))])) _
          refine XS.iconst X0.here hx rfl (hb hby at_326) ?_
          show Steps p.tables e below (s₁.setTop (mkF m 327 #[.val (.int p0), .val (.int p1), .val (.int p2), .val (.int p3), .val (.int p4), .val (.int (2 : Int32)), .val (.int cx), .val (.int cy), .val (.int cz), .unset, .unset, .val (.int (1 : Int32)), .unset, .unset] [(.int (1 : Int32)), (.int (1 : Int32))])) _
          refine XS.icmpNo X0.here hx rfl (hb hby at_327) rfl (teq (by decide)).2 ?_
          show Steps p.tables e below (s₁.setTop (mkF m 330 #[.val (.int p0), .val (.int p1), .val (.int p2), .val (.int p3), .val (.int p4), .val (.int (2 : Int32)), .val (.int cx), .val (.int cy), .val (.int cz), .unset, .unset, .val (.int (1 : Int32)), .unset, .unset] [])) _
          exact kt
        obtain ⟨T154, h154, X154, e154, E154, A154, D154, -, st154⟩ := newO X0 hx hZ hown (hw _ (List.mem_of_getElem? (i := 32) rfl)) (hw _ (List.mem_of_getElem? (i := 3) rfl)) (hw _ (List.mem_of_getElem? (i := 2) rfl)) e0 (g := (mkF m 330 #[.val (.int p0), .val (.int p1), .val (.int p2), .val (.int p3), .val (.int p4), .val (.int (2 : Int32)), .val (.int cx), .val (.int cy), .val (.int cz), .unset, .unset, .val (.int (1 : Int32)), .unset, .unset] [])) rfl (hb hby at_330) (by decide) (by decide)
        obtain ⟨b154, g154⟩ : ∃ z, z = h0.size := ⟨_, rfl⟩
        rw [← g154] at A154 D154 st154
        have gn154 : n0 ≤ b154 := Nat.le_trans Z0 (Nat.le_of_eq g154.symm)
        have Z154 : n0 ≤ h154.size := Nat.le_trans Z0 E154.1
        have K154 : ∀ t, Steps p.tables e below (T154.setTop (mkF m 333 #[.val (.int p0), .val (.int p1), .val (.int p2), .val (.int p3), .val (.int p4), .val (.int (2 : Int32)), .val (.int cx), .val (.int cy), .val (.int cz), .unset, .unset, .val (.int (1 : Int32)), .unset, .unset] [(.ref b154)])) t → Steps p.tables e below G0 t := fun t kt => K153 t (st154 _ kt)
        have F_value_b154 := (D154 (Or.inr (hw _ (List.mem_of_getElem? (i := 5) rfl))) (ty := (.array .byte)) (by decide) : Fld Z h154 b154 "java/lang/String" "value" "[B" .null)
        have F_coder_b154 := (D154 (Or.inr (hw _ (List.mem_of_getElem? (i := 6) rfl))) (ty := .byte) (by decide) : Fld Z h154 b154 "java/lang/String" "coder" "B" (.int (0 : Int32)))
        have K155 : ∀ t, Steps p.tables e below (T154.setTop (mkF m 335 #[.val (.int p0), .val (.int p1), .val (.int p2), .val (.int p3), .val (.int p4), .val (.int (2 : Int32)), .val (.int cx), .val (.int cy), .val (.int cz), .unset, .unset, .val (.int (1 : Int32)), .unset, .unset] [(.int (1 : Int32)), (.ref b154), (.ref b154)])) t → Steps p.tables e below G0 t := by
          intro t kt
          refine K154 t ?_
          refine XS.dup X154.here hx rfl (hb hby at_333) rfl rfl ?_
          show Steps p.tables e below (T154.setTop (mkF m 334 #[.val (.int p0), .val (.int p1), .val (.int p2), .val (.int p3), .val (.int p4), .val (.int (2 : Int32)), .val (.int cx), .val (.int cy), .val (.int cz), .unset, .unset, .val (.int (1 : Int32)), .unset, .unset] [(.ref b154), (.ref b154)])) _
          refine XS.iconst X154.here hx rfl (hb hby at_334) ?_
          show Steps p.tables e below (T154.setTop (mkF m 335 #[.val (.int p0), .val (.int p1), .val (.int p2), .val (.int p3), .val (.int p4), .val (.int (2 : Int32)), .val (.int cx), .val (.int cy), .val (.int cz), .unset, .unset, .val (.int (1 : Int32)), .unset, .unset] [(.int (1 : Int32)), (.ref b154), (.ref b154)])) _
          exact kt
        obtain ⟨T156, h156, k156, X156, e156, E156, A156, st156⟩ := newP X154 hx hZ (hw _ (List.mem_of_getElem? (i := 33) rfl)) e154 (g := (mkF m 335 #[.val (.int p0), .val (.int p1), .val (.int p2), .val (.int p3), .val (.int p4), .val (.int (2 : Int32)), .val (.int cx), .val (.int cy), .val (.int cz), .unset, .unset, .val (.int (1 : Int32)), .unset, .unset] [(.int (1 : Int32)), (.ref b154), (.ref b154)])) rfl (hb hby at_335) rfl (by decide) (cap := 1) (by decide) (by decide) (by decide) (by decide)
        obtain ⟨b156, g156⟩ : ∃ z, z = h154.size := ⟨_, rfl⟩
        rw [← g156] at A156 st156
        have V156 := Arv.new A156 (by decide)
        have gn156 : n0 ≤ b156 := Nat.le_trans Z154 (Nat.le_of_eq g156.symm)
        have Z156 : n0 ≤ h156.size := Nat.le_trans Z154 E156.1
        have K156 : ∀ t, Steps p.tables e below (T156.setTop (mkF m 337 #[.val (.int p0), .val (.int p1), .val (.int p2), .val (.int p3), .val (.int p4), .val (.int (2 : Int32)), .val (.int cx), .val (.int cy), .val (.int cz), .unset, .unset, .val (.int (1 : Int32)), .unset, .unset] [(.ref b156), (.ref b154), (.ref b154)])) t → Steps p.tables e below G0 t := fun t kt => K155 t (st156 _ kt)
        have ne_b154_b156 : b154 ≠ b156 := Nat.ne_of_lt (Nat.lt_of_lt_of_le (A154).lt (Nat.le_of_eq g156.symm))
        have VL156 : Arv Z h156 b156 k156 .char (1 : Int32) [(.int (0 : Int32))] (.int (0 : Int32)) := V156.pad (pad_rep [] (.int (0 : Int32)) 1)
        have K157 : ∀ t, Steps p.tables e below (T156.setTop (mkF m 341 #[.val (.int p0), .val (.int p1), .val (.int p2), .val (.int p3), .val (.int p4), .val (.int (2 : Int32)), .val (.int cx), .val (.int cy), .val (.int cz), .unset, .unset, .val (.int (1 : Int32)), .unset, .unset] [(.int cx), (.int (0 : Int32)), (.ref b156), (.ref b156), (.ref b154), (.ref b154)])) t → Steps p.tables e below G0 t := by
          intro t kt
          refine K156 t ?_
          refine XS.dup X156.here hx rfl (hb hby at_337) rfl rfl ?_
          show Steps p.tables e below (T156.setTop (mkF m 338 #[.val (.int p0), .val (.int p1), .val (.int p2), .val (.int p3), .val (.int p4), .val (.int (2 : Int32)), .val (.int cx), .val (.int cy), .val (.int cz), .unset, .unset, .val (.int (1 : Int32)), .unset, .unset] [(.ref b156), (.ref b156), (.ref b154), (.ref b154)])) _
          refine XS.iconst X156.here hx rfl (hb hby at_338) ?_
          show Steps p.tables e below (T156.setTop (mkF m 339 #[.val (.int p0), .val (.int p1), .val (.int p2), .val (.int p3), .val (.int p4), .val (.int (2 : Int32)), .val (.int cx), .val (.int cy), .val (.int cz), .unset, .unset, .val (.int (1 : Int32)), .unset, .unset] [(.int (0 : Int32)), (.ref b156), (.ref b156), (.ref b154), (.ref b154)])) _
          refine XS.iload X156.here hx rfl (hb hby at_339) rfl ?_
          show Steps p.tables e below (T156.setTop (mkF m 341 #[.val (.int p0), .val (.int p1), .val (.int p2), .val (.int p3), .val (.int p4), .val (.int (2 : Int32)), .val (.int cx), .val (.int cy), .val (.int cz), .unset, .unset, .val (.int (1 : Int32)), .unset, .unset] [(.int cx), (.int (0 : Int32)), (.ref b156), (.ref b156), (.ref b154), (.ref b154)])) _
          exact kt
        obtain ⟨cl158, Ar158, qq158, S158, M158, H158, GG158⟩ := id VL156
        have hin158 : ¬ ((0 : Int32) < 0 ∨ cl158.slots.size ≤ ((0 : Int32)).toNatClampNeg) := inb_of S158 ⟨by decide, by decide⟩
        obtain ⟨T159, h159, X159, e159, W159, st159⟩ := stC X156 hx hZ e156 Ar158 (j := (0 : Int32)) hin158 (g := (mkF m 341 #[.val (.int p0), .val (.int p1), .val (.int p2), .val (.int p3), .val (.int p4), .val (.int (2 : Int32)), .val (.int cx), .val (.int cy), .val (.int cz), .unset, .unset, .val (.int (1 : Int32)), .unset, .unset] [(.int cx), (.int (0 : Int32)), (.ref b156), (.ref b156), (.ref b154), (.ref b154)])) rfl rfl (hb hby at_341)
        have K159 : ∀ t, Steps p.tables e below (T159.setTop (mkF m 342 #[.val (.int p0), .val (.int p1), .val (.int p2), .val (.int p3), .val (.int p4), .val (.int (2 : Int32)), .val (.int cx), .val (.int cy), .val (.int cz), .unset, .unset, .val (.int (1 : Int32)), .unset, .unset] [(.ref b156), (.ref b154), (.ref b154)])) t → Steps p.tables e below G0 t := fun t kt => K157 t (st159 _ kt)
        have Z159 : n0 ≤ h159.size := Nat.le_trans Z156 (Keep.of_wr W159).1
        have VL159 : Arv Z h159 b156 k156 .char (1 : Int32) [(.int (nar .char cx))] (.int (0 : Int32)) := Arv.set Ar158 qq158 S158 M158 H158 GG158 (fits_nar_char _) W159 0 rfl (Nat.le_of_ble_eq_true rfl)
        have N159 := Fr.snoc X159 N0 gn156
        have hpc : ∀ c ∈ ([(nar .char cx)] : List Int32), ¬ c < 0 ∧ ¬ (255 : Int32) < c := (by intro c hc; simp only [List.mem_cons, List.not_mem_nil, or_false] at hc; rcases hc with rfl; all_goals first | exact b_cx | exact b_cy | exact b_cz | decide)
        have f160 := ((A154.ext E156).wr W159)
        have f161 := ((F_value_b154.ext E156).other W159 (Or.inl ne_b154_b156))
        have f162 := ((F_coder_b154.ext E156).other W159 (Or.inl ne_b154_b156))
        have f163 := (((HO.ext E154).ext E156).wr W159 gn156)
        obtain ⟨v164, _, ⟨T164, L164, k164, n164⟩, -, X164, ⟨Lc164, hQ164, l164, y164, z164⟩, st164⟩ := X159.specialBack hx (y := (⟨"java/lang/String", "<init>", "([C)V"⟩ : MethodName)) rfl hown (mvT hZ (hw _ (List.mem_of_getElem? (i := 34) rfl))) (mvT hZ (hw _ (List.mem_of_getElem? (i := 35) rfl))) (mvT hZ (hw _ (List.mem_of_getElem? (i := 36) rfl))) (by decide) (StrChars.Road.backV (W := 1) hZ (own_wsV hw) (kI := 4) (hw _ (List.mem_of_getElem? (i := 3) rfl)) (cs := [(nar .char cx)]) (bs := ([(nar .char cx)] : List Int32).map (fun c => c.toInt8.toInt32)) (n := 1) gn154 Z159 f160 f161 f162 VL159 (O2.ext f163.2) P5 rfl rfl (by decide) (by decide) hpc rfl (by decide) (by decide)) (g := (mkF m 342 #[.val (.int p0), .val (.int p1), .val (.int p2), .val (.int p3), .val (.int p4), .val (.int (2 : Int32)), .val (.int cx), .val (.int cy), .val (.int cz), .unset, .unset, .val (.int (1 : Int32)), .unset, .unset] [(.ref b156), (.ref b154), (.ref b154)])) rfl (by rw [hml]; rfl) (Steps.refl _) (a := b154) (argsL := [(.ref b156)]) (rest := [(.ref b154)]) (lenOf pd_P_CQV rfl) rfl (by show 2 * 0 + _ ≤ _; exact Nat.le_of_eq rfl) (hb hby at_342) (fun _ _ => ⟨rfl, e159, (by decide : 2 + 1 ≤ _), (by decide : 5 + 1 ≤ _)⟩)
        dsimp only [Pt.U, Pt.locs, Pt.cells, Pt.slots] at X164 l164 y164 z164 st164 hQ164
        subst l164 y164 z164
        obtain ⟨rfl, N164q, KV164, EX164, CO164, tt164, kb164, -, -, -, VV164, KK164⟩ := hQ164
        have N164 := Fr.app N159 N164q
        have K164 : ∀ t, Steps p.tables e below (T164.setTop (mkF m 345 #[.val (.int p0), .val (.int p1), .val (.int p2), .val (.int p3), .val (.int p4), .val (.int (2 : Int32)), .val (.int cx), .val (.int cy), .val (.int cz), .unset, .unset, .val (.int (1 : Int32)), .unset, .unset] [(.ref b154)])) t → Steps p.tables e below G0 t := fun t kt => K159 t (st164.trans kt)
        have Z164 : n0 ≤ T164.heap.size := Nat.le_trans Z159 KV164.1
        have sn164 : own_Str Z T164.heap b154 [(nar .char cx)] := ⟨EX164, CO164, ⟨_, _, VV164, KK164⟩, hpc, Nat.le_of_ble_eq_true rfl⟩
        have K165 : ∀ t, Steps p.tables e below (T164.setTop (mkF m 510 #[.val (.int p0), .val (.int p1), .val (.int p2), .val (.int p3), .val (.int p4), .val (.int (2 : Int32)), .val (.int cx), .val (.int cy), .val (.int cz), .val (.ref b154), .val (.int (0 : Int32)), .val (.int (1 : Int32)), .unset, .unset] [])) t → Steps p.tables e below G0 t := by
          intro t kt
          refine K164 t ?_
          refine XS.astore X164.here hx rfl (hb hby at_345) rfl rfl (l' := #[.val (.int p0), .val (.int p1), .val (.int p2), .val (.int p3), .val (.int p4), .val (.int (2 : Int32)), .val (.int cx), .val (.int cy), .val (.int cz), .val (.ref b154), .unset, .val (.int (1 : Int32)), .unset, .unset]) rfl ?_
          show Steps p.tables e below (T164.setTop (mkF m 347 #[.val (.int p0), .val (.int p1), .val (.int p2), .val (.int p3), .val (.int p4), .val (.int (2 : Int32)), .val (.int cx), .val (.int cy), .val (.int cz), .val (.ref b154), .unset, .val (.int (1 : Int32)), .unset, .unset] [])) _
          refine XS.goto X164.here hx rfl (pc0 := 347) (pc' := 408) rfl (hb hby at_347) (by decide) (by decide) ?_
          show Steps p.tables e below (T164.setTop (mkF m 408 #[.val (.int p0), .val (.int p1), .val (.int p2), .val (.int p3), .val (.int p4), .val (.int (2 : Int32)), .val (.int cx), .val (.int cy), .val (.int cz), .val (.ref b154), .unset, .val (.int (1 : Int32)), .unset, .unset] [])) _
          refine XS.iconst X164.here hx rfl (hb hby at_408) ?_
          show Steps p.tables e below (T164.setTop (mkF m 409 #[.val (.int p0), .val (.int p1), .val (.int p2), .val (.int p3), .val (.int p4), .val (.int (2 : Int32)), .val (.int cx), .val (.int cy), .val (.int cz), .val (.ref b154), .unset, .val (.int (1 : Int32)), .unset, .unset] [(.int (0 : Int32))])) _
          refine XS.istore X164.here hx rfl (hb hby at_409) rfl (l' := #[.val (.int p0), .val (.int p1), .val (.int p2), .val (.int p3), .val (.int p4), .val (.int (2 : Int32)), .val (.int cx), .val (.int cy), .val (.int cz), .val (.ref b154), .val (.int (0 : Int32)), .val (.int (1 : Int32)), .unset, .unset]) rfl ?_
          show Steps p.tables e below (T164.setTop (mkF m 411 #[.val (.int p0), .val (.int p1), .val (.int p2), .val (.int p3), .val (.int p4), .val (.int (2 : Int32)), .val (.int cx), .val (.int cy), .val (.int cz), .val (.ref b154), .val (.int (0 : Int32)), .val (.int (1 : Int32)), .unset, .unset] [])) _
          refine XS.goto X164.here hx rfl (pc0 := 411) (pc' := 510) rfl (hb hby at_411) (by decide) (by decide) ?_
          show Steps p.tables e below (T164.setTop (mkF m 510 #[.val (.int p0), .val (.int p1), .val (.int p2), .val (.int p3), .val (.int p4), .val (.int (2 : Int32)), .val (.int cx), .val (.int cy), .val (.int cz), .val (.ref b154), .val (.int (0 : Int32)), .val (.int (1 : Int32)), .unset, .unset] [])) _
          exact kt
        have KQ166_0 := Keep.refl h0 []
        have sz166_154 := Nat.le_trans KQ166_0.1 (Nat.le_of_eq g154.symm)
        have KQ166_1 := KQ166_0.ext E154
        have sz166_156 := Nat.le_trans KQ166_1.1 (Nat.le_of_eq g156.symm)
        have KQ166_2 := KQ166_1.ext E156
        have KQ166_3 := KQ166_2.wr W159 (Or.inr sz166_156)
        have KQ166_4 := KQ166_3.trans KV164 (fun x hx => by simp only [List.mem_cons, List.not_mem_nil, or_false] at hx; rcases hx with rfl <;> first | exact (Or.inr sz166_154))
        have CH167 := CH0.trans (CHr.keep KQ166_4 sf0 CH0.1)
        have f168 := (Nat.le_trans (Nat.le_trans (Nat.le_trans (Nat.le_trans hk0 E154.1) E156.1) (Keep.of_wr W159).1) KV164.1)
        have f169 := (f163.keep KV164 (fun x hx => by cases List.mem_singleton.mp hx; exact gn154))
        have hq : own_q [(nar .char cx)] own_html = (0 : Int32) := own_len (by simp)
        exact ⟨_, _, _, _, _, b154, [(nar .char cx)], .val (.int (1 : Int32)), .unset, .unset, X164.more (Nat.le_of_ble_eq_true rfl) (Nat.le_of_ble_eq_true rfl), (rfl : T164.heap = _), N164, Z164, hS0, f168, hZ, hown, CH167, f169, sn164, (One.val rfl), fun t kt => K165 t (by rw [hq, hk5] at kt; exact kt)⟩
      ·
        rw [hn4] at K139
        have K170 : ∀ t, Steps p.tables e below (s₁.setTop (mkF m 356 #[.val (.int p0), .val (.int p1), .val (.int p2), .val (.int p3), .val (.int p4), .val (.int (2 : Int32)), .val (.int cx), .val (.int cy), .val (.int cz), .unset, .unset, .val (.int (2 : Int32)), .unset, .unset] [])) t → Steps p.tables e below G0 t := by
          intro t kt
          refine K139 t ?_
          refine XS.ifYes X0.here hx rfl (pc0 := 306) (pc' := 324) rfl (hb hby at_306) rfl ((if0 _ _).trans (feq (by decide)).2) (by decide) (by decide) ?_
          show Steps p.tables e below (s₁.setTop (mkF m 324 #[.val (.int p0), .val (.int p1), .val (.int p2), .val (.int p3), .val (.int p4), .val (.int (2 : Int32)), .val (.int cx), .val (.int cy), .val (.int cz), .unset, .unset, .val (.int (2 : Int32)), .unset, .unset] [])) _
          refine XS.iload X0.here hx rfl (hb hby at_324) rfl ?_
          show Steps p.tables e below (s₁.setTop (mkF m 326 #[.val (.int p0), .val (.int p1), .val (.int p2), .val (.int p3), .val (.int p4), .val (.int (2 : Int32)), .val (.int cx), .val (.int cy), .val (.int cz), .unset, .unset, .val (.int (2 : Int32)), .unset, .unset] [(.int (2 : Int32))])) _
          refine XS.iconst X0.here hx rfl (hb hby at_326) ?_
          show Steps p.tables e below (s₁.setTop (mkF m 327 #[.val (.int p0), .val (.int p1), .val (.int p2), .val (.int p3), .val (.int p4), .val (.int (2 : Int32)), .val (.int cx), .val (.int cy), .val (.int cz), .unset, .unset, .val (.int (2 : Int32)), .unset, .unset] [(.int (1 : Int32)), (.int (2 : Int32))])) _
          refine XS.icmpYes X0.here hx rfl (pc0 := 327) (pc' := 350) rfl (hb hby at_327) rfl (feq (by decide)).2 (by decide) (by decide) ?_
          show Steps p.tables e below (s₁.setTop (mkF m 350 #[.val (.int p0), .val (.int p1), .val (.int p2), .val (.int p3), .val (.int p4), .val (.int (2 : Int32)), .val (.int cx), .val (.int cy), .val (.int cz), .unset, .unset, .val (.int (2 : Int32)), .unset, .unset] [])) _
          refine XS.iload X0.here hx rfl (hb hby at_350) rfl ?_
          show Steps p.tables e below (s₁.setTop (mkF m 352 #[.val (.int p0), .val (.int p1), .val (.int p2), .val (.int p3), .val (.int p4), .val (.int (2 : Int32)), .val (.int cx), .val (.int cy), .val (.int cz), .unset, .unset, .val (.int (2 : Int32)), .unset, .unset] [(.int (2 : Int32))])) _
          refine XS.iconst X0.here hx rfl (hb hby at_352) ?_
          show Steps p.tables e below (s₁.setTop (mkF m 353 #[.val (.int p0), .val (.int p1), .val (.int p2), .val (.int p3), .val (.int p4), .val (.int (2 : Int32)), .val (.int cx), .val (.int cy), .val (.int cz), .unset, .unset, .val (.int (2 : Int32)), .unset, .unset] [(.int (2 : Int32)), (.int (2 : Int32))])) _
          refine XS.icmpNo X0.here hx rfl (hb hby at_353) rfl (teq (by decide)).2 ?_
          show Steps p.tables e below (s₁.setTop (mkF m 356 #[.val (.int p0), .val (.int p1), .val (.int p2), .val (.int p3), .val (.int p4), .val (.int (2 : Int32)), .val (.int cx), .val (.int cy), .val (.int cz), .unset, .unset, .val (.int (2 : Int32)), .unset, .unset] [])) _
          exact kt
        obtain ⟨T171, h171, X171, e171, E171, A171, D171, -, st171⟩ := newO X0 hx hZ hown (hw _ (List.mem_of_getElem? (i := 32) rfl)) (hw _ (List.mem_of_getElem? (i := 3) rfl)) (hw _ (List.mem_of_getElem? (i := 2) rfl)) e0 (g := (mkF m 356 #[.val (.int p0), .val (.int p1), .val (.int p2), .val (.int p3), .val (.int p4), .val (.int (2 : Int32)), .val (.int cx), .val (.int cy), .val (.int cz), .unset, .unset, .val (.int (2 : Int32)), .unset, .unset] [])) rfl (hb hby at_356) (by decide) (by decide)
        obtain ⟨b171, g171⟩ : ∃ z, z = h0.size := ⟨_, rfl⟩
        rw [← g171] at A171 D171 st171
        have gn171 : n0 ≤ b171 := Nat.le_trans Z0 (Nat.le_of_eq g171.symm)
        have Z171 : n0 ≤ h171.size := Nat.le_trans Z0 E171.1
        have K171 : ∀ t, Steps p.tables e below (T171.setTop (mkF m 359 #[.val (.int p0), .val (.int p1), .val (.int p2), .val (.int p3), .val (.int p4), .val (.int (2 : Int32)), .val (.int cx), .val (.int cy), .val (.int cz), .unset, .unset, .val (.int (2 : Int32)), .unset, .unset] [(.ref b171)])) t → Steps p.tables e below G0 t := fun t kt => K170 t (st171 _ kt)
        have F_value_b171 := (D171 (Or.inr (hw _ (List.mem_of_getElem? (i := 5) rfl))) (ty := (.array .byte)) (by decide) : Fld Z h171 b171 "java/lang/String" "value" "[B" .null)
        have F_coder_b171 := (D171 (Or.inr (hw _ (List.mem_of_getElem? (i := 6) rfl))) (ty := .byte) (by decide) : Fld Z h171 b171 "java/lang/String" "coder" "B" (.int (0 : Int32)))
        have K172 : ∀ t, Steps p.tables e below (T171.setTop (mkF m 361 #[.val (.int p0), .val (.int p1), .val (.int p2), .val (.int p3), .val (.int p4), .val (.int (2 : Int32)), .val (.int cx), .val (.int cy), .val (.int cz), .unset, .unset, .val (.int (2 : Int32)), .unset, .unset] [(.int (2 : Int32)), (.ref b171), (.ref b171)])) t → Steps p.tables e below G0 t := by
          intro t kt
          refine K171 t ?_
          refine XS.dup X171.here hx rfl (hb hby at_359) rfl rfl ?_
          show Steps p.tables e below (T171.setTop (mkF m 360 #[.val (.int p0), .val (.int p1), .val (.int p2), .val (.int p3), .val (.int p4), .val (.int (2 : Int32)), .val (.int cx), .val (.int cy), .val (.int cz), .unset, .unset, .val (.int (2 : Int32)), .unset, .unset] [(.ref b171), (.ref b171)])) _
          refine XS.iconst X171.here hx rfl (hb hby at_360) ?_
          show Steps p.tables e below (T171.setTop (mkF m 361 #[.val (.int p0), .val (.int p1), .val (.int p2), .val (.int p3), .val (.int p4), .val (.int (2 : Int32)), .val (.int cx), .val (.int cy), .val (.int cz), .unset, .unset, .val (.int (2 : Int32)), .unset, .unset] [(.int (2 : Int32)), (.ref b171), (.ref b171)])) _
          exact kt
        obtain ⟨T173, h173, k173, X173, e173, E173, A173, st173⟩ := newP X171 hx hZ (hw _ (List.mem_of_getElem? (i := 33) rfl)) e171 (g := (mkF m 361 #[.val (.int p0), .val (.int p1), .val (.int p2), .val (.int p3), .val (.int p4), .val (.int (2 : Int32)), .val (.int cx), .val (.int cy), .val (.int cz), .unset, .unset, .val (.int (2 : Int32)), .unset, .unset] [(.int (2 : Int32)), (.ref b171), (.ref b171)])) rfl (hb hby at_361) rfl (by decide) (cap := 2) (by decide) (by decide) (by decide) (by decide)
        obtain ⟨b173, g173⟩ : ∃ z, z = h171.size := ⟨_, rfl⟩
        rw [← g173] at A173 st173
        have V173 := Arv.new A173 (by decide)
        have gn173 : n0 ≤ b173 := Nat.le_trans Z171 (Nat.le_of_eq g173.symm)
        have Z173 : n0 ≤ h173.size := Nat.le_trans Z171 E173.1
        have K173 : ∀ t, Steps p.tables e below (T173.setTop (mkF m 363 #[.val (.int p0), .val (.int p1), .val (.int p2), .val (.int p3), .val (.int p4), .val (.int (2 : Int32)), .val (.int cx), .val (.int cy), .val (.int cz), .unset, .unset, .val (.int (2 : Int32)), .unset, .unset] [(.ref b173), (.ref b171), (.ref b171)])) t → Steps p.tables e below G0 t := fun t kt => K172 t (st173 _ kt)
        have ne_b171_b173 : b171 ≠ b173 := Nat.ne_of_lt (Nat.lt_of_lt_of_le (A171).lt (Nat.le_of_eq g173.symm))
        have VL173 : Arv Z h173 b173 k173 .char (2 : Int32) [(.int (0 : Int32)), (.int (0 : Int32))] (.int (0 : Int32)) := V173.pad (pad_rep [] (.int (0 : Int32)) 2)
        have K174 : ∀ t, Steps p.tables e below (T173.setTop (mkF m 367 #[.val (.int p0), .val (.int p1), .val (.int p2), .val (.int p3), .val (.int p4), .val (.int (2 : Int32)), .val (.int cx), .val (.int cy), .val (.int cz), .unset, .unset, .val (.int (2 : Int32)), .unset, .unset] [(.int cx), (.int (0 : Int32)), (.ref b173), (.ref b173), (.ref b171), (.ref b171)])) t → Steps p.tables e below G0 t := by
          intro t kt
          refine K173 t ?_
          refine XS.dup X173.here hx rfl (hb hby at_363) rfl rfl ?_
          show Steps p.tables e below (T173.setTop (mkF m 364 #[.val (.int p0), .val (.int p1), .val (.int p2), .val (.int p3), .val (.int p4), .val (.int (2 : Int32)), .val (.int cx), .val (.int cy), .val (.int cz), .unset, .unset, .val (.int (2 : Int32)), .unset, .unset] [(.ref b173), (.ref b173), (.ref b171), (.ref b171)])) _
          refine XS.iconst X173.here hx rfl (hb hby at_364) ?_
          show Steps p.tables e below (T173.setTop (mkF m 365 #[.val (.int p0), .val (.int p1), .val (.int p2), .val (.int p3), .val (.int p4), .val (.int (2 : Int32)), .val (.int cx), .val (.int cy), .val (.int cz), .unset, .unset, .val (.int (2 : Int32)), .unset, .unset] [(.int (0 : Int32)), (.ref b173), (.ref b173), (.ref b171), (.ref b171)])) _
          refine XS.iload X173.here hx rfl (hb hby at_365) rfl ?_
          show Steps p.tables e below (T173.setTop (mkF m 367 #[.val (.int p0), .val (.int p1), .val (.int p2), .val (.int p3), .val (.int p4), .val (.int (2 : Int32)), .val (.int cx), .val (.int cy), .val (.int cz), .unset, .unset, .val (.int (2 : Int32)), .unset, .unset] [(.int cx), (.int (0 : Int32)), (.ref b173), (.ref b173), (.ref b171), (.ref b171)])) _
          exact kt
        obtain ⟨cl175, Ar175, qq175, S175, M175, H175, GG175⟩ := id VL173
        have hin175 : ¬ ((0 : Int32) < 0 ∨ cl175.slots.size ≤ ((0 : Int32)).toNatClampNeg) := inb_of S175 ⟨by decide, by decide⟩
        obtain ⟨T176, h176, X176, e176, W176, st176⟩ := stC X173 hx hZ e173 Ar175 (j := (0 : Int32)) hin175 (g := (mkF m 367 #[.val (.int p0), .val (.int p1), .val (.int p2), .val (.int p3), .val (.int p4), .val (.int (2 : Int32)), .val (.int cx), .val (.int cy), .val (.int cz), .unset, .unset, .val (.int (2 : Int32)), .unset, .unset] [(.int cx), (.int (0 : Int32)), (.ref b173), (.ref b173), (.ref b171), (.ref b171)])) rfl rfl (hb hby at_367)
        have K176 : ∀ t, Steps p.tables e below (T176.setTop (mkF m 368 #[.val (.int p0), .val (.int p1), .val (.int p2), .val (.int p3), .val (.int p4), .val (.int (2 : Int32)), .val (.int cx), .val (.int cy), .val (.int cz), .unset, .unset, .val (.int (2 : Int32)), .unset, .unset] [(.ref b173), (.ref b171), (.ref b171)])) t → Steps p.tables e below G0 t := fun t kt => K174 t (st176 _ kt)
        have Z176 : n0 ≤ h176.size := Nat.le_trans Z173 (Keep.of_wr W176).1
        have VL176 : Arv Z h176 b173 k173 .char (2 : Int32) [(.int (nar .char cx)), (.int (0 : Int32))] (.int (0 : Int32)) := Arv.set Ar175 qq175 S175 M175 H175 GG175 (fits_nar_char _) W176 0 rfl (Nat.le_of_ble_eq_true rfl)
        have N176 := Fr.snoc X176 N0 gn173
        have K177 : ∀ t, Steps p.tables e below (T176.setTop (mkF m 372 #[.val (.int p0), .val (.int p1), .val (.int p2), .val (.int p3), .val (.int p4), .val (.int (2 : Int32)), .val (.int cx), .val (.int cy), .val (.int cz), .unset, .unset, .val (.int (2 : Int32)), .unset, .unset] [(.int cy), (.int (1 : Int32)), (.ref b173), (.ref b173), (.ref b171), (.ref b171)])) t → Steps p.tables e below G0 t := by
          intro t kt
          refine K176 t ?_
          refine XS.dup X176.here hx rfl (hb hby at_368) rfl rfl ?_
          show Steps p.tables e below (T176.setTop (mkF m 369 #[.val (.int p0), .val (.int p1), .val (.int p2), .val (.int p3), .val (.int p4), .val (.int (2 : Int32)), .val (.int cx), .val (.int cy), .val (.int cz), .unset, .unset, .val (.int (2 : Int32)), .unset, .unset] [(.ref b173), (.ref b173), (.ref b171), (.ref b171)])) _
          refine XS.iconst X176.here hx rfl (hb hby at_369) ?_
          show Steps p.tables e below (T176.setTop (mkF m 370 #[.val (.int p0), .val (.int p1), .val (.int p2), .val (.int p3), .val (.int p4), .val (.int (2 : Int32)), .val (.int cx), .val (.int cy), .val (.int cz), .unset, .unset, .val (.int (2 : Int32)), .unset, .unset] [(.int (1 : Int32)), (.ref b173), (.ref b173), (.ref b171), (.ref b171)])) _
          refine XS.iload X176.here hx rfl (hb hby at_370) rfl ?_
          show Steps p.tables e below (T176.setTop (mkF m 372 #[.val (.int p0), .val (.int p1), .val (.int p2), .val (.int p3), .val (.int p4), .val (.int (2 : Int32)), .val (.int cx), .val (.int cy), .val (.int cz), .unset, .unset, .val (.int (2 : Int32)), .unset, .unset] [(.int cy), (.int (1 : Int32)), (.ref b173), (.ref b173), (.ref b171), (.ref b171)])) _
          exact kt
        obtain ⟨cl178, Ar178, qq178, S178, M178, H178, GG178⟩ := id VL176
        have hin178 : ¬ ((1 : Int32) < 0 ∨ cl178.slots.size ≤ ((1 : Int32)).toNatClampNeg) := inb_of S178 ⟨by decide, by decide⟩
        obtain ⟨T179, h179, X179, e179, W179, st179⟩ := stC X176 hx hZ e176 Ar178 (j := (1 : Int32)) hin178 (g := (mkF m 372 #[.val (.int p0), .val (.int p1), .val (.int p2), .val (.int p3), .val (.int p4), .val (.int (2 : Int32)), .val (.int cx), .val (.int cy), .val (.int cz), .unset, .unset, .val (.int (2 : Int32)), .unset, .unset] [(.int cy), (.int (1 : Int32)), (.ref b173), (.ref b173), (.ref b171), (.ref b171)])) rfl rfl (hb hby at_372)
        have K179 : ∀ t, Steps p.tables e below (T179.setTop (mkF m 373 #[.val (.int p0), .val (.int p1), .val (.int p2), .val (.int p3), .val (.int p4), .val (.int (2 : Int32)), .val (.int cx), .val (.int cy), .val (.int cz), .unset, .unset, .val (.int (2 : Int32)), .unset, .unset] [(.ref b173), (.ref b171), (.ref b171)])) t → Steps p.tables e below G0 t := fun t kt => K177 t (st179 _ kt)
        have Z179 : n0 ≤ h179.size := Nat.le_trans Z176 (Keep.of_wr W179).1
        have VL179 : Arv Z h179 b173 k173 .char (2 : Int32) [(.int (nar .char cx)), (.int (nar .char cy))] (.int (0 : Int32)) := Arv.set Ar178 qq178 S178 M178 H178 GG178 (fits_nar_char _) W179 1 rfl (Nat.le_of_ble_eq_true rfl)
        have N179 := Fr.snoc X179 N176 gn173
        have hpc : ∀ c ∈ ([(nar .char cx), (nar .char cy)] : List Int32), ¬ c < 0 ∧ ¬ (255 : Int32) < c := (by intro c hc; simp only [List.mem_cons, List.not_mem_nil, or_false] at hc; rcases hc with rfl | rfl; all_goals first | exact b_cx | exact b_cy | exact b_cz | decide)
        have f180 := (((A171.ext E173).wr W176).wr W179)
        have f181 := (((F_value_b171.ext E173).other W176 (Or.inl ne_b171_b173)).other W179 (Or.inl ne_b171_b173))
        have f182 := (((F_coder_b171.ext E173).other W176 (Or.inl ne_b171_b173)).other W179 (Or.inl ne_b171_b173))
        have f183 := ((((HO.ext E171).ext E173).wr W176 gn173).wr W179 gn173)
        obtain ⟨v184, _, ⟨T184, L184, k184, n184⟩, -, X184, ⟨Lc184, hQ184, l184, y184, z184⟩, st184⟩ := X179.specialBack hx (y := (⟨"java/lang/String", "<init>", "([C)V"⟩ : MethodName)) rfl hown (mvT hZ (hw _ (List.mem_of_getElem? (i := 34) rfl))) (mvT hZ (hw _ (List.mem_of_getElem? (i := 35) rfl))) (mvT hZ (hw _ (List.mem_of_getElem? (i := 36) rfl))) (by decide) (StrChars.Road.backV (W := 1) hZ (own_wsV hw) (kI := 4) (hw _ (List.mem_of_getElem? (i := 3) rfl)) (cs := [(nar .char cx), (nar .char cy)]) (bs := ([(nar .char cx), (nar .char cy)] : List Int32).map (fun c => c.toInt8.toInt32)) (n := 2) gn171 Z179 f180 f181 f182 VL179 (O2.ext f183.2) P5 rfl rfl (by decide) (by decide) hpc rfl (by decide) (by decide)) (g := (mkF m 373 #[.val (.int p0), .val (.int p1), .val (.int p2), .val (.int p3), .val (.int p4), .val (.int (2 : Int32)), .val (.int cx), .val (.int cy), .val (.int cz), .unset, .unset, .val (.int (2 : Int32)), .unset, .unset] [(.ref b173), (.ref b171), (.ref b171)])) rfl (by rw [hml]; rfl) (Steps.refl _) (a := b171) (argsL := [(.ref b173)]) (rest := [(.ref b171)]) (lenOf pd_P_CQV rfl) rfl (by show 2 * 0 + _ ≤ _; exact Nat.le_of_eq rfl) (hb hby at_373) (fun _ _ => ⟨rfl, e179, (by decide : 2 + 1 ≤ _), (by decide : 6 + 2 ≤ _)⟩)
        dsimp only [Pt.U, Pt.locs, Pt.cells, Pt.slots] at X184 l184 y184 z184 st184 hQ184
        subst l184 y184 z184
        obtain ⟨rfl, N184q, KV184, EX184, CO184, tt184, kb184, -, -, -, VV184, KK184⟩ := hQ184
        have N184 := Fr.app N179 N184q
        have K184 : ∀ t, Steps p.tables e below (T184.setTop (mkF m 376 #[.val (.int p0), .val (.int p1), .val (.int p2), .val (.int p3), .val (.int p4), .val (.int (2 : Int32)), .val (.int cx), .val (.int cy), .val (.int cz), .unset, .unset, .val (.int (2 : Int32)), .unset, .unset] [(.ref b171)])) t → Steps p.tables e below G0 t := fun t kt => K179 t (st184.trans kt)
        have Z184 : n0 ≤ T184.heap.size := Nat.le_trans Z179 KV184.1
        have sn184 : own_Str Z T184.heap b171 [(nar .char cx), (nar .char cy)] := ⟨EX184, CO184, ⟨_, _, VV184, KK184⟩, hpc, Nat.le_of_ble_eq_true rfl⟩
        have K185 : ∀ t, Steps p.tables e below (T184.setTop (mkF m 510 #[.val (.int p0), .val (.int p1), .val (.int p2), .val (.int p3), .val (.int p4), .val (.int (2 : Int32)), .val (.int cx), .val (.int cy), .val (.int cz), .val (.ref b171), .val (.int (0 : Int32)), .val (.int (2 : Int32)), .unset, .unset] [])) t → Steps p.tables e below G0 t := by
          intro t kt
          refine K184 t ?_
          refine XS.astore X184.here hx rfl (hb hby at_376) rfl rfl (l' := #[.val (.int p0), .val (.int p1), .val (.int p2), .val (.int p3), .val (.int p4), .val (.int (2 : Int32)), .val (.int cx), .val (.int cy), .val (.int cz), .val (.ref b171), .unset, .val (.int (2 : Int32)), .unset, .unset]) rfl ?_
          show Steps p.tables e below (T184.setTop (mkF m 378 #[.val (.int p0), .val (.int p1), .val (.int p2), .val (.int p3), .val (.int p4), .val (.int (2 : Int32)), .val (.int cx), .val (.int cy), .val (.int cz), .val (.ref b171), .unset, .val (.int (2 : Int32)), .unset, .unset] [])) _
          refine XS.goto X184.here hx rfl (pc0 := 378) (pc' := 408) rfl (hb hby at_378) (by decide) (by decide) ?_
          show Steps p.tables e below (T184.setTop (mkF m 408 #[.val (.int p0), .val (.int p1), .val (.int p2), .val (.int p3), .val (.int p4), .val (.int (2 : Int32)), .val (.int cx), .val (.int cy), .val (.int cz), .val (.ref b171), .unset, .val (.int (2 : Int32)), .unset, .unset] [])) _
          refine XS.iconst X184.here hx rfl (hb hby at_408) ?_
          show Steps p.tables e below (T184.setTop (mkF m 409 #[.val (.int p0), .val (.int p1), .val (.int p2), .val (.int p3), .val (.int p4), .val (.int (2 : Int32)), .val (.int cx), .val (.int cy), .val (.int cz), .val (.ref b171), .unset, .val (.int (2 : Int32)), .unset, .unset] [(.int (0 : Int32))])) _
          refine XS.istore X184.here hx rfl (hb hby at_409) rfl (l' := #[.val (.int p0), .val (.int p1), .val (.int p2), .val (.int p3), .val (.int p4), .val (.int (2 : Int32)), .val (.int cx), .val (.int cy), .val (.int cz), .val (.ref b171), .val (.int (0 : Int32)), .val (.int (2 : Int32)), .unset, .unset]) rfl ?_
          show Steps p.tables e below (T184.setTop (mkF m 411 #[.val (.int p0), .val (.int p1), .val (.int p2), .val (.int p3), .val (.int p4), .val (.int (2 : Int32)), .val (.int cx), .val (.int cy), .val (.int cz), .val (.ref b171), .val (.int (0 : Int32)), .val (.int (2 : Int32)), .unset, .unset] [])) _
          refine XS.goto X184.here hx rfl (pc0 := 411) (pc' := 510) rfl (hb hby at_411) (by decide) (by decide) ?_
          show Steps p.tables e below (T184.setTop (mkF m 510 #[.val (.int p0), .val (.int p1), .val (.int p2), .val (.int p3), .val (.int p4), .val (.int (2 : Int32)), .val (.int cx), .val (.int cy), .val (.int cz), .val (.ref b171), .val (.int (0 : Int32)), .val (.int (2 : Int32)), .unset, .unset] [])) _
          exact kt
        have KQ186_0 := Keep.refl h0 []
        have sz186_171 := Nat.le_trans KQ186_0.1 (Nat.le_of_eq g171.symm)
        have KQ186_1 := KQ186_0.ext E171
        have sz186_173 := Nat.le_trans KQ186_1.1 (Nat.le_of_eq g173.symm)
        have KQ186_2 := KQ186_1.ext E173
        have KQ186_3 := KQ186_2.wr W176 (Or.inr sz186_173)
        have KQ186_4 := KQ186_3.wr W179 (Or.inr sz186_173)
        have KQ186_5 := KQ186_4.trans KV184 (fun x hx => by simp only [List.mem_cons, List.not_mem_nil, or_false] at hx; rcases hx with rfl <;> first | exact (Or.inr sz186_171))
        have CH187 := CH0.trans (CHr.keep KQ186_5 sf0 CH0.1)
        have f188 := (Nat.le_trans (Nat.le_trans (Nat.le_trans (Nat.le_trans (Nat.le_trans hk0 E171.1) E173.1) (Keep.of_wr W176).1) (Keep.of_wr W179).1) KV184.1)
        have f189 := (f183.keep KV184 (fun x hx => by cases List.mem_singleton.mp hx; exact gn171))
        have hq : own_q [(nar .char cx), (nar .char cy)] own_html = (0 : Int32) := own_len (by simp)
        exact ⟨_, _, _, _, _, b171, [(nar .char cx), (nar .char cy)], .val (.int (2 : Int32)), .unset, .unset, X184.more (Nat.le_of_ble_eq_true rfl) (Nat.le_of_ble_eq_true rfl), (rfl : T184.heap = _), N184, Z184, hS0, f188, hZ, hown, CH187, f189, sn184, (One.val rfl), fun t kt => K185 t (by rw [hq, hk5] at kt; exact kt)⟩
      ·
        rw [hn4] at K139
        have K190 : ∀ t, Steps p.tables e below (s₁.setTop (mkF m 381 #[.val (.int p0), .val (.int p1), .val (.int p2), .val (.int p3), .val (.int p4), .val (.int (2 : Int32)), .val (.int cx), .val (.int cy), .val (.int cz), .unset, .unset, .val (.int (3 : Int32)), .unset, .unset] [])) t → Steps p.tables e below G0 t := by
          intro t kt
          refine K139 t ?_
          refine XS.ifYes X0.here hx rfl (pc0 := 306) (pc' := 324) rfl (hb hby at_306) rfl ((if0 _ _).trans (feq (by decide)).2) (by decide) (by decide) ?_
          show Steps p.tables e below (s₁.setTop (mkF m 324 #[.val (.int p0), .val (.int p1), .val (.int p2), .val (.int p3), .val (.int p4), .val (.int (2 : Int32)), .val (.int cx), .val (.int cy), .val (.int cz), .unset, .unset, .val (.int (3 : Int32)), .unset, .unset] [])) _
          refine XS.iload X0.here hx rfl (hb hby at_324) rfl ?_
          show Steps p.tables e below (s₁.setTop (mkF m 326 #[.val (.int p0), .val (.int p1), .val (.int p2), .val (.int p3), .val (.int p4), .val (.int (2 : Int32)), .val (.int cx), .val (.int cy), .val (.int cz), .unset, .unset, .val (.int (3 : Int32)), .unset, .unset] [(.int (3 : Int32))])) _
          refine XS.iconst X0.here hx rfl (hb hby at_326) ?_
          show Steps p.tables e below (s₁.setTop (mkF m 327 #[.val (.int p0), .val (.int p1), .val (.int p2), .val (.int p3), .val (.int p4), .val (.int (2 : Int32)), .val (.int cx), .val (.int cy), .val (.int cz), .unset, .unset, .val (.int (3 : Int32)), .unset, .unset] [(.int (1 : Int32)), (.int (3 : Int32))])) _
          refine XS.icmpYes X0.here hx rfl (pc0 := 327) (pc' := 350) rfl (hb hby at_327) rfl (feq (by decide)).2 (by decide) (by decide) ?_
          show Steps p.tables e below (s₁.setTop (mkF m 350 #[.val (.int p0), .val (.int p1), .val (.int p2), .val (.int p3), .val (.int p4), .val (.int (2 : Int32)), .val (.int cx), .val (.int cy), .val (.int cz), .unset, .unset, .val (.int (3 : Int32)), .unset, .unset] [])) _
          refine XS.iload X0.here hx rfl (hb hby at_350) rfl ?_
          show Steps p.tables e below (s₁.setTop (mkF m 352 #[.val (.int p0), .val (.int p1), .val (.int p2), .val (.int p3), .val (.int p4), .val (.int (2 : Int32)), .val (.int cx), .val (.int cy), .val (.int cz), .unset, .unset, .val (.int (3 : Int32)), .unset, .unset] [(.int (3 : Int32))])) _
          refine XS.iconst X0.here hx rfl (hb hby at_352) ?_
          show Steps p.tables e below (s₁.setTop (mkF m 353 #[.val (.int p0), .val (.int p1), .val (.int p2), .val (.int p3), .val (.int p4), .val (.int (2 : Int32)), .val (.int cx), .val (.int cy), .val (.int cz), .unset, .unset, .val (.int (3 : Int32)), .unset, .unset] [(.int (2 : Int32)), (.int (3 : Int32))])) _
          refine XS.icmpYes X0.here hx rfl (pc0 := 353) (pc' := 381) rfl (hb hby at_353) rfl (feq (by decide)).2 (by decide) (by decide) ?_
          show Steps p.tables e below (s₁.setTop (mkF m 381 #[.val (.int p0), .val (.int p1), .val (.int p2), .val (.int p3), .val (.int p4), .val (.int (2 : Int32)), .val (.int cx), .val (.int cy), .val (.int cz), .unset, .unset, .val (.int (3 : Int32)), .unset, .unset] [])) _
          exact kt
        obtain ⟨T191, h191, X191, e191, E191, A191, D191, -, st191⟩ := newO X0 hx hZ hown (hw _ (List.mem_of_getElem? (i := 32) rfl)) (hw _ (List.mem_of_getElem? (i := 3) rfl)) (hw _ (List.mem_of_getElem? (i := 2) rfl)) e0 (g := (mkF m 381 #[.val (.int p0), .val (.int p1), .val (.int p2), .val (.int p3), .val (.int p4), .val (.int (2 : Int32)), .val (.int cx), .val (.int cy), .val (.int cz), .unset, .unset, .val (.int (3 : Int32)), .unset, .unset] [])) rfl (hb hby at_381) (by decide) (by decide)
        obtain ⟨b191, g191⟩ : ∃ z, z = h0.size := ⟨_, rfl⟩
        rw [← g191] at A191 D191 st191
        have gn191 : n0 ≤ b191 := Nat.le_trans Z0 (Nat.le_of_eq g191.symm)
        have Z191 : n0 ≤ h191.size := Nat.le_trans Z0 E191.1
        have K191 : ∀ t, Steps p.tables e below (T191.setTop (mkF m 384 #[.val (.int p0), .val (.int p1), .val (.int p2), .val (.int p3), .val (.int p4), .val (.int (2 : Int32)), .val (.int cx), .val (.int cy), .val (.int cz), .unset, .unset, .val (.int (3 : Int32)), .unset, .unset] [(.ref b191)])) t → Steps p.tables e below G0 t := fun t kt => K190 t (st191 _ kt)
        have F_value_b191 := (D191 (Or.inr (hw _ (List.mem_of_getElem? (i := 5) rfl))) (ty := (.array .byte)) (by decide) : Fld Z h191 b191 "java/lang/String" "value" "[B" .null)
        have F_coder_b191 := (D191 (Or.inr (hw _ (List.mem_of_getElem? (i := 6) rfl))) (ty := .byte) (by decide) : Fld Z h191 b191 "java/lang/String" "coder" "B" (.int (0 : Int32)))
        have K192 : ∀ t, Steps p.tables e below (T191.setTop (mkF m 386 #[.val (.int p0), .val (.int p1), .val (.int p2), .val (.int p3), .val (.int p4), .val (.int (2 : Int32)), .val (.int cx), .val (.int cy), .val (.int cz), .unset, .unset, .val (.int (3 : Int32)), .unset, .unset] [(.int (3 : Int32)), (.ref b191), (.ref b191)])) t → Steps p.tables e below G0 t := by
          intro t kt
          refine K191 t ?_
          refine XS.dup X191.here hx rfl (hb hby at_384) rfl rfl ?_
          show Steps p.tables e below (T191.setTop (mkF m 385 #[.val (.int p0), .val (.int p1), .val (.int p2), .val (.int p3), .val (.int p4), .val (.int (2 : Int32)), .val (.int cx), .val (.int cy), .val (.int cz), .unset, .unset, .val (.int (3 : Int32)), .unset, .unset] [(.ref b191), (.ref b191)])) _
          refine XS.iconst X191.here hx rfl (hb hby at_385) ?_
          show Steps p.tables e below (T191.setTop (mkF m 386 #[.val (.int p0), .val (.int p1), .val (.int p2), .val (.int p3), .val (.int p4), .val (.int (2 : Int32)), .val (.int cx), .val (.int cy), .val (.int cz), .unset, .unset, .val (.int (3 : Int32)), .unset, .unset] [(.int (3 : Int32)), (.ref b191), (.ref b191)])) _
          exact kt
        obtain ⟨T193, h193, k193, X193, e193, E193, A193, st193⟩ := newP X191 hx hZ (hw _ (List.mem_of_getElem? (i := 33) rfl)) e191 (g := (mkF m 386 #[.val (.int p0), .val (.int p1), .val (.int p2), .val (.int p3), .val (.int p4), .val (.int (2 : Int32)), .val (.int cx), .val (.int cy), .val (.int cz), .unset, .unset, .val (.int (3 : Int32)), .unset, .unset] [(.int (3 : Int32)), (.ref b191), (.ref b191)])) rfl (hb hby at_386) rfl (by decide) (cap := 3) (by decide) (by decide) (by decide) (by decide)
        obtain ⟨b193, g193⟩ : ∃ z, z = h191.size := ⟨_, rfl⟩
        rw [← g193] at A193 st193
        have V193 := Arv.new A193 (by decide)
        have gn193 : n0 ≤ b193 := Nat.le_trans Z191 (Nat.le_of_eq g193.symm)
        have Z193 : n0 ≤ h193.size := Nat.le_trans Z191 E193.1
        have K193 : ∀ t, Steps p.tables e below (T193.setTop (mkF m 388 #[.val (.int p0), .val (.int p1), .val (.int p2), .val (.int p3), .val (.int p4), .val (.int (2 : Int32)), .val (.int cx), .val (.int cy), .val (.int cz), .unset, .unset, .val (.int (3 : Int32)), .unset, .unset] [(.ref b193), (.ref b191), (.ref b191)])) t → Steps p.tables e below G0 t := fun t kt => K192 t (st193 _ kt)
        have ne_b191_b193 : b191 ≠ b193 := Nat.ne_of_lt (Nat.lt_of_lt_of_le (A191).lt (Nat.le_of_eq g193.symm))
        have VL193 : Arv Z h193 b193 k193 .char (3 : Int32) [(.int (0 : Int32)), (.int (0 : Int32)), (.int (0 : Int32))] (.int (0 : Int32)) := V193.pad (pad_rep [] (.int (0 : Int32)) 3)
        have K194 : ∀ t, Steps p.tables e below (T193.setTop (mkF m 392 #[.val (.int p0), .val (.int p1), .val (.int p2), .val (.int p3), .val (.int p4), .val (.int (2 : Int32)), .val (.int cx), .val (.int cy), .val (.int cz), .unset, .unset, .val (.int (3 : Int32)), .unset, .unset] [(.int cx), (.int (0 : Int32)), (.ref b193), (.ref b193), (.ref b191), (.ref b191)])) t → Steps p.tables e below G0 t := by
          intro t kt
          refine K193 t ?_
          refine XS.dup X193.here hx rfl (hb hby at_388) rfl rfl ?_
          show Steps p.tables e below (T193.setTop (mkF m 389 #[.val (.int p0), .val (.int p1), .val (.int p2), .val (.int p3), .val (.int p4), .val (.int (2 : Int32)), .val (.int cx), .val (.int cy), .val (.int cz), .unset, .unset, .val (.int (3 : Int32)), .unset, .unset] [(.ref b193), (.ref b193), (.ref b191), (.ref b191)])) _
          refine XS.iconst X193.here hx rfl (hb hby at_389) ?_
          show Steps p.tables e below (T193.setTop (mkF m 390 #[.val (.int p0), .val (.int p1), .val (.int p2), .val (.int p3), .val (.int p4), .val (.int (2 : Int32)), .val (.int cx), .val (.int cy), .val (.int cz), .unset, .unset, .val (.int (3 : Int32)), .unset, .unset] [(.int (0 : Int32)), (.ref b193), (.ref b193), (.ref b191), (.ref b191)])) _
          refine XS.iload X193.here hx rfl (hb hby at_390) rfl ?_
          show Steps p.tables e below (T193.setTop (mkF m 392 #[.val (.int p0), .val (.int p1), .val (.int p2), .val (.int p3), .val (.int p4), .val (.int (2 : Int32)), .val (.int cx), .val (.int cy), .val (.int cz), .unset, .unset, .val (.int (3 : Int32)), .unset, .unset] [(.int cx), (.int (0 : Int32)), (.ref b193), (.ref b193), (.ref b191), (.ref b191)])) _
          exact kt
        obtain ⟨cl195, Ar195, qq195, S195, M195, H195, GG195⟩ := id VL193
        have hin195 : ¬ ((0 : Int32) < 0 ∨ cl195.slots.size ≤ ((0 : Int32)).toNatClampNeg) := inb_of S195 ⟨by decide, by decide⟩
        obtain ⟨T196, h196, X196, e196, W196, st196⟩ := stC X193 hx hZ e193 Ar195 (j := (0 : Int32)) hin195 (g := (mkF m 392 #[.val (.int p0), .val (.int p1), .val (.int p2), .val (.int p3), .val (.int p4), .val (.int (2 : Int32)), .val (.int cx), .val (.int cy), .val (.int cz), .unset, .unset, .val (.int (3 : Int32)), .unset, .unset] [(.int cx), (.int (0 : Int32)), (.ref b193), (.ref b193), (.ref b191), (.ref b191)])) rfl rfl (hb hby at_392)
        have K196 : ∀ t, Steps p.tables e below (T196.setTop (mkF m 393 #[.val (.int p0), .val (.int p1), .val (.int p2), .val (.int p3), .val (.int p4), .val (.int (2 : Int32)), .val (.int cx), .val (.int cy), .val (.int cz), .unset, .unset, .val (.int (3 : Int32)), .unset, .unset] [(.ref b193), (.ref b191), (.ref b191)])) t → Steps p.tables e below G0 t := fun t kt => K194 t (st196 _ kt)
        have Z196 : n0 ≤ h196.size := Nat.le_trans Z193 (Keep.of_wr W196).1
        have VL196 : Arv Z h196 b193 k193 .char (3 : Int32) [(.int (nar .char cx)), (.int (0 : Int32)), (.int (0 : Int32))] (.int (0 : Int32)) := Arv.set Ar195 qq195 S195 M195 H195 GG195 (fits_nar_char _) W196 0 rfl (Nat.le_of_ble_eq_true rfl)
        have N196 := Fr.snoc X196 N0 gn193
        have K197 : ∀ t, Steps p.tables e below (T196.setTop (mkF m 397 #[.val (.int p0), .val (.int p1), .val (.int p2), .val (.int p3), .val (.int p4), .val (.int (2 : Int32)), .val (.int cx), .val (.int cy), .val (.int cz), .unset, .unset, .val (.int (3 : Int32)), .unset, .unset] [(.int cy), (.int (1 : Int32)), (.ref b193), (.ref b193), (.ref b191), (.ref b191)])) t → Steps p.tables e below G0 t := by
          intro t kt
          refine K196 t ?_
          refine XS.dup X196.here hx rfl (hb hby at_393) rfl rfl ?_
          show Steps p.tables e below (T196.setTop (mkF m 394 #[.val (.int p0), .val (.int p1), .val (.int p2), .val (.int p3), .val (.int p4), .val (.int (2 : Int32)), .val (.int cx), .val (.int cy), .val (.int cz), .unset, .unset, .val (.int (3 : Int32)), .unset, .unset] [(.ref b193), (.ref b193), (.ref b191), (.ref b191)])) _
          refine XS.iconst X196.here hx rfl (hb hby at_394) ?_
          show Steps p.tables e below (T196.setTop (mkF m 395 #[.val (.int p0), .val (.int p1), .val (.int p2), .val (.int p3), .val (.int p4), .val (.int (2 : Int32)), .val (.int cx), .val (.int cy), .val (.int cz), .unset, .unset, .val (.int (3 : Int32)), .unset, .unset] [(.int (1 : Int32)), (.ref b193), (.ref b193), (.ref b191), (.ref b191)])) _
          refine XS.iload X196.here hx rfl (hb hby at_395) rfl ?_
          show Steps p.tables e below (T196.setTop (mkF m 397 #[.val (.int p0), .val (.int p1), .val (.int p2), .val (.int p3), .val (.int p4), .val (.int (2 : Int32)), .val (.int cx), .val (.int cy), .val (.int cz), .unset, .unset, .val (.int (3 : Int32)), .unset, .unset] [(.int cy), (.int (1 : Int32)), (.ref b193), (.ref b193), (.ref b191), (.ref b191)])) _
          exact kt
        obtain ⟨cl198, Ar198, qq198, S198, M198, H198, GG198⟩ := id VL196
        have hin198 : ¬ ((1 : Int32) < 0 ∨ cl198.slots.size ≤ ((1 : Int32)).toNatClampNeg) := inb_of S198 ⟨by decide, by decide⟩
        obtain ⟨T199, h199, X199, e199, W199, st199⟩ := stC X196 hx hZ e196 Ar198 (j := (1 : Int32)) hin198 (g := (mkF m 397 #[.val (.int p0), .val (.int p1), .val (.int p2), .val (.int p3), .val (.int p4), .val (.int (2 : Int32)), .val (.int cx), .val (.int cy), .val (.int cz), .unset, .unset, .val (.int (3 : Int32)), .unset, .unset] [(.int cy), (.int (1 : Int32)), (.ref b193), (.ref b193), (.ref b191), (.ref b191)])) rfl rfl (hb hby at_397)
        have K199 : ∀ t, Steps p.tables e below (T199.setTop (mkF m 398 #[.val (.int p0), .val (.int p1), .val (.int p2), .val (.int p3), .val (.int p4), .val (.int (2 : Int32)), .val (.int cx), .val (.int cy), .val (.int cz), .unset, .unset, .val (.int (3 : Int32)), .unset, .unset] [(.ref b193), (.ref b191), (.ref b191)])) t → Steps p.tables e below G0 t := fun t kt => K197 t (st199 _ kt)
        have Z199 : n0 ≤ h199.size := Nat.le_trans Z196 (Keep.of_wr W199).1
        have VL199 : Arv Z h199 b193 k193 .char (3 : Int32) [(.int (nar .char cx)), (.int (nar .char cy)), (.int (0 : Int32))] (.int (0 : Int32)) := Arv.set Ar198 qq198 S198 M198 H198 GG198 (fits_nar_char _) W199 1 rfl (Nat.le_of_ble_eq_true rfl)
        have N199 := Fr.snoc X199 N196 gn193
        have K200 : ∀ t, Steps p.tables e below (T199.setTop (mkF m 402 #[.val (.int p0), .val (.int p1), .val (.int p2), .val (.int p3), .val (.int p4), .val (.int (2 : Int32)), .val (.int cx), .val (.int cy), .val (.int cz), .unset, .unset, .val (.int (3 : Int32)), .unset, .unset] [(.int cz), (.int (2 : Int32)), (.ref b193), (.ref b193), (.ref b191), (.ref b191)])) t → Steps p.tables e below G0 t := by
          intro t kt
          refine K199 t ?_
          refine XS.dup X199.here hx rfl (hb hby at_398) rfl rfl ?_
          show Steps p.tables e below (T199.setTop (mkF m 399 #[.val (.int p0), .val (.int p1), .val (.int p2), .val (.int p3), .val (.int p4), .val (.int (2 : Int32)), .val (.int cx), .val (.int cy), .val (.int cz), .unset, .unset, .val (.int (3 : Int32)), .unset, .unset] [(.ref b193), (.ref b193), (.ref b191), (.ref b191)])) _
          refine XS.iconst X199.here hx rfl (hb hby at_399) ?_
          show Steps p.tables e below (T199.setTop (mkF m 400 #[.val (.int p0), .val (.int p1), .val (.int p2), .val (.int p3), .val (.int p4), .val (.int (2 : Int32)), .val (.int cx), .val (.int cy), .val (.int cz), .unset, .unset, .val (.int (3 : Int32)), .unset, .unset] [(.int (2 : Int32)), (.ref b193), (.ref b193), (.ref b191), (.ref b191)])) _
          refine XS.iload X199.here hx rfl (hb hby at_400) rfl ?_
          show Steps p.tables e below (T199.setTop (mkF m 402 #[.val (.int p0), .val (.int p1), .val (.int p2), .val (.int p3), .val (.int p4), .val (.int (2 : Int32)), .val (.int cx), .val (.int cy), .val (.int cz), .unset, .unset, .val (.int (3 : Int32)), .unset, .unset] [(.int cz), (.int (2 : Int32)), (.ref b193), (.ref b193), (.ref b191), (.ref b191)])) _
          exact kt
        obtain ⟨cl201, Ar201, qq201, S201, M201, H201, GG201⟩ := id VL199
        have hin201 : ¬ ((2 : Int32) < 0 ∨ cl201.slots.size ≤ ((2 : Int32)).toNatClampNeg) := inb_of S201 ⟨by decide, by decide⟩
        obtain ⟨T202, h202, X202, e202, W202, st202⟩ := stC X199 hx hZ e199 Ar201 (j := (2 : Int32)) hin201 (g := (mkF m 402 #[.val (.int p0), .val (.int p1), .val (.int p2), .val (.int p3), .val (.int p4), .val (.int (2 : Int32)), .val (.int cx), .val (.int cy), .val (.int cz), .unset, .unset, .val (.int (3 : Int32)), .unset, .unset] [(.int cz), (.int (2 : Int32)), (.ref b193), (.ref b193), (.ref b191), (.ref b191)])) rfl rfl (hb hby at_402)
        have K202 : ∀ t, Steps p.tables e below (T202.setTop (mkF m 403 #[.val (.int p0), .val (.int p1), .val (.int p2), .val (.int p3), .val (.int p4), .val (.int (2 : Int32)), .val (.int cx), .val (.int cy), .val (.int cz), .unset, .unset, .val (.int (3 : Int32)), .unset, .unset] [(.ref b193), (.ref b191), (.ref b191)])) t → Steps p.tables e below G0 t := fun t kt => K200 t (st202 _ kt)
        have Z202 : n0 ≤ h202.size := Nat.le_trans Z199 (Keep.of_wr W202).1
        have VL202 : Arv Z h202 b193 k193 .char (3 : Int32) [(.int (nar .char cx)), (.int (nar .char cy)), (.int (nar .char cz))] (.int (0 : Int32)) := Arv.set Ar201 qq201 S201 M201 H201 GG201 (fits_nar_char _) W202 2 rfl (Nat.le_of_ble_eq_true rfl)
        have N202 := Fr.snoc X202 N199 gn193
        have hpc : ∀ c ∈ ([(nar .char cx), (nar .char cy), (nar .char cz)] : List Int32), ¬ c < 0 ∧ ¬ (255 : Int32) < c := (by intro c hc; simp only [List.mem_cons, List.not_mem_nil, or_false] at hc; rcases hc with rfl | rfl | rfl; all_goals first | exact b_cx | exact b_cy | exact b_cz | decide)
        have f203 := ((((A191.ext E193).wr W196).wr W199).wr W202)
        have f204 := ((((F_value_b191.ext E193).other W196 (Or.inl ne_b191_b193)).other W199 (Or.inl ne_b191_b193)).other W202 (Or.inl ne_b191_b193))
        have f205 := ((((F_coder_b191.ext E193).other W196 (Or.inl ne_b191_b193)).other W199 (Or.inl ne_b191_b193)).other W202 (Or.inl ne_b191_b193))
        have f206 := (((((HO.ext E191).ext E193).wr W196 gn193).wr W199 gn193).wr W202 gn193)
        obtain ⟨v207, _, ⟨T207, L207, k207, n207⟩, -, X207, ⟨Lc207, hQ207, l207, y207, z207⟩, st207⟩ := X202.specialBack hx (y := (⟨"java/lang/String", "<init>", "([C)V"⟩ : MethodName)) rfl hown (mvT hZ (hw _ (List.mem_of_getElem? (i := 34) rfl))) (mvT hZ (hw _ (List.mem_of_getElem? (i := 35) rfl))) (mvT hZ (hw _ (List.mem_of_getElem? (i := 36) rfl))) (by decide) (StrChars.Road.backV (W := 1) hZ (own_wsV hw) (kI := 4) (hw _ (List.mem_of_getElem? (i := 3) rfl)) (cs := [(nar .char cx), (nar .char cy), (nar .char cz)]) (bs := ([(nar .char cx), (nar .char cy), (nar .char cz)] : List Int32).map (fun c => c.toInt8.toInt32)) (n := 3) gn191 Z202 f203 f204 f205 VL202 (O2.ext f206.2) P5 rfl rfl (by decide) (by decide) hpc rfl (by decide) (by decide)) (g := (mkF m 403 #[.val (.int p0), .val (.int p1), .val (.int p2), .val (.int p3), .val (.int p4), .val (.int (2 : Int32)), .val (.int cx), .val (.int cy), .val (.int cz), .unset, .unset, .val (.int (3 : Int32)), .unset, .unset] [(.ref b193), (.ref b191), (.ref b191)])) rfl (by rw [hml]; rfl) (Steps.refl _) (a := b191) (argsL := [(.ref b193)]) (rest := [(.ref b191)]) (lenOf pd_P_CQV rfl) rfl (by show 2 * 0 + _ ≤ _; exact Nat.le_of_eq rfl) (hb hby at_403) (fun _ _ => ⟨rfl, e202, (by decide : 2 + 1 ≤ _), (by decide : 7 + 3 ≤ _)⟩)
        dsimp only [Pt.U, Pt.locs, Pt.cells, Pt.slots] at X207 l207 y207 z207 st207 hQ207
        subst l207 y207 z207
        obtain ⟨rfl, N207q, KV207, EX207, CO207, tt207, kb207, -, -, -, VV207, KK207⟩ := hQ207
        have N207 := Fr.app N202 N207q
        have K207 : ∀ t, Steps p.tables e below (T207.setTop (mkF m 406 #[.val (.int p0), .val (.int p1), .val (.int p2), .val (.int p3), .val (.int p4), .val (.int (2 : Int32)), .val (.int cx), .val (.int cy), .val (.int cz), .unset, .unset, .val (.int (3 : Int32)), .unset, .unset] [(.ref b191)])) t → Steps p.tables e below G0 t := fun t kt => K202 t (st207.trans kt)
        have Z207 : n0 ≤ T207.heap.size := Nat.le_trans Z202 KV207.1
        have sn207 : own_Str Z T207.heap b191 [(nar .char cx), (nar .char cy), (nar .char cz)] := ⟨EX207, CO207, ⟨_, _, VV207, KK207⟩, hpc, Nat.le_of_ble_eq_true rfl⟩
        have K208 : ∀ t, Steps p.tables e below (T207.setTop (mkF m 510 #[.val (.int p0), .val (.int p1), .val (.int p2), .val (.int p3), .val (.int p4), .val (.int (2 : Int32)), .val (.int cx), .val (.int cy), .val (.int cz), .val (.ref b191), .val (.int (0 : Int32)), .val (.int (3 : Int32)), .unset, .unset] [])) t → Steps p.tables e below G0 t := by
          intro t kt
          refine K207 t ?_
          refine XS.astore X207.here hx rfl (hb hby at_406) rfl rfl (l' := #[.val (.int p0), .val (.int p1), .val (.int p2), .val (.int p3), .val (.int p4), .val (.int (2 : Int32)), .val (.int cx), .val (.int cy), .val (.int cz), .val (.ref b191), .unset, .val (.int (3 : Int32)), .unset, .unset]) rfl ?_
          show Steps p.tables e below (T207.setTop (mkF m 408 #[.val (.int p0), .val (.int p1), .val (.int p2), .val (.int p3), .val (.int p4), .val (.int (2 : Int32)), .val (.int cx), .val (.int cy), .val (.int cz), .val (.ref b191), .unset, .val (.int (3 : Int32)), .unset, .unset] [])) _
          refine XS.iconst X207.here hx rfl (hb hby at_408) ?_
          show Steps p.tables e below (T207.setTop (mkF m 409 #[.val (.int p0), .val (.int p1), .val (.int p2), .val (.int p3), .val (.int p4), .val (.int (2 : Int32)), .val (.int cx), .val (.int cy), .val (.int cz), .val (.ref b191), .unset, .val (.int (3 : Int32)), .unset, .unset] [(.int (0 : Int32))])) _
          refine XS.istore X207.here hx rfl (hb hby at_409) rfl (l' := #[.val (.int p0), .val (.int p1), .val (.int p2), .val (.int p3), .val (.int p4), .val (.int (2 : Int32)), .val (.int cx), .val (.int cy), .val (.int cz), .val (.ref b191), .val (.int (0 : Int32)), .val (.int (3 : Int32)), .unset, .unset]) rfl ?_
          show Steps p.tables e below (T207.setTop (mkF m 411 #[.val (.int p0), .val (.int p1), .val (.int p2), .val (.int p3), .val (.int p4), .val (.int (2 : Int32)), .val (.int cx), .val (.int cy), .val (.int cz), .val (.ref b191), .val (.int (0 : Int32)), .val (.int (3 : Int32)), .unset, .unset] [])) _
          refine XS.goto X207.here hx rfl (pc0 := 411) (pc' := 510) rfl (hb hby at_411) (by decide) (by decide) ?_
          show Steps p.tables e below (T207.setTop (mkF m 510 #[.val (.int p0), .val (.int p1), .val (.int p2), .val (.int p3), .val (.int p4), .val (.int (2 : Int32)), .val (.int cx), .val (.int cy), .val (.int cz), .val (.ref b191), .val (.int (0 : Int32)), .val (.int (3 : Int32)), .unset, .unset] [])) _
          exact kt
        have KQ209_0 := Keep.refl h0 []
        have sz209_191 := Nat.le_trans KQ209_0.1 (Nat.le_of_eq g191.symm)
        have KQ209_1 := KQ209_0.ext E191
        have sz209_193 := Nat.le_trans KQ209_1.1 (Nat.le_of_eq g193.symm)
        have KQ209_2 := KQ209_1.ext E193
        have KQ209_3 := KQ209_2.wr W196 (Or.inr sz209_193)
        have KQ209_4 := KQ209_3.wr W199 (Or.inr sz209_193)
        have KQ209_5 := KQ209_4.wr W202 (Or.inr sz209_193)
        have KQ209_6 := KQ209_5.trans KV207 (fun x hx => by simp only [List.mem_cons, List.not_mem_nil, or_false] at hx; rcases hx with rfl <;> first | exact (Or.inr sz209_191))
        have CH210 := CH0.trans (CHr.keep KQ209_6 sf0 CH0.1)
        have f211 := (Nat.le_trans (Nat.le_trans (Nat.le_trans (Nat.le_trans (Nat.le_trans (Nat.le_trans hk0 E191.1) E193.1) (Keep.of_wr W196).1) (Keep.of_wr W199).1) (Keep.of_wr W202).1) KV207.1)
        have f212 := (f206.keep KV207 (fun x hx => by cases List.mem_singleton.mp hx; exact gn191))
        have hq : own_q [(nar .char cx), (nar .char cy), (nar .char cz)] own_html = (0 : Int32) := own_len (by simp)
        exact ⟨_, _, _, _, _, b191, [(nar .char cx), (nar .char cy), (nar .char cz)], .val (.int (3 : Int32)), .unset, .unset, X207.more (Nat.le_of_ble_eq_true rfl) (Nat.le_of_ble_eq_true rfl), (rfl : T207.heap = _), N207, Z207, hS0, f211, hZ, hown, CH210, f212, sn207, (One.val rfl), fun t kt => K208 t (by rw [hq, hk5] at kt; exact kt)⟩
    ·
      rw [hk5] at K4
      have K213 : ∀ t, Steps p.tables e below (s₁.setTop (mkF m 429 #[.val (.int p0), .val (.int p1), .val (.int p2), .val (.int p3), .val (.int p4), .val (.int (3 : Int32)), .val (.int cx), .val (.int cy), .val (.int cz), .unset, .unset, .val (.int ((p1 &&& (2147483647 : Int32)) % (6 : Int32))), .unset, .unset] [])) t → Steps p.tables e below G0 t := by
        intro t kt
        refine K4 t ?_
        refine XS.iload X0.here hx rfl (hb hby at_33) rfl ?_
        show Steps p.tables e below (s₁.setTop (mkF m 35 #[.val (.int p0), .val (.int p1), .val (.int p2), .val (.int p3), .val (.int p4), .val (.int (3 : Int32)), .val (.int cx), .val (.int cy), .val (.int cz), .unset, .unset, .unset, .unset, .unset] [(.int (3 : Int32))])) _
        refine XS.ifYes X0.here hx rfl (pc0 := 35) (pc' := 48) rfl (hb hby at_35) rfl ((if0 _ _).trans (feq (by decide)).2) (by decide) (by decide) ?_
        show Steps p.tables e below (s₁.setTop (mkF m 48 #[.val (.int p0), .val (.int p1), .val (.int p2), .val (.int p3), .val (.int p4), .val (.int (3 : Int32)), .val (.int cx), .val (.int cy), .val (.int cz), .unset, .unset, .unset, .unset, .unset] [])) _
        refine XS.iload X0.here hx rfl (hb hby at_48) rfl ?_
        show Steps p.tables e below (s₁.setTop (mkF m 50 #[.val (.int p0), .val (.int p1), .val (.int p2), .val (.int p3), .val (.int p4), .val (.int (3 : Int32)), .val (.int cx), .val (.int cy), .val (.int cz), .unset, .unset, .unset, .unset, .unset] [(.int (3 : Int32))])) _
        refine XS.iconst X0.here hx rfl (hb hby at_50) ?_
        show Steps p.tables e below (s₁.setTop (mkF m 51 #[.val (.int p0), .val (.int p1), .val (.int p2), .val (.int p3), .val (.int p4), .val (.int (3 : Int32)), .val (.int cx), .val (.int cy), .val (.int cz), .unset, .unset, .unset, .unset, .unset] [(.int (1 : Int32)), (.int (3 : Int32))])) _
        refine XS.icmpYes X0.here hx rfl (pc0 := 51) (pc' := 293) rfl (hb hby at_51) rfl (feq (by decide)).2 (by decide) (by decide) ?_
        show Steps p.tables e below (s₁.setTop (mkF m 293 #[.val (.int p0), .val (.int p1), .val (.int p2), .val (.int p3), .val (.int p4), .val (.int (3 : Int32)), .val (.int cx), .val (.int cy), .val (.int cz), .unset, .unset, .unset, .unset, .unset] [])) _
        refine XS.iload X0.here hx rfl (hb hby at_293) rfl ?_
        show Steps p.tables e below (s₁.setTop (mkF m 295 #[.val (.int p0), .val (.int p1), .val (.int p2), .val (.int p3), .val (.int p4), .val (.int (3 : Int32)), .val (.int cx), .val (.int cy), .val (.int cz), .unset, .unset, .unset, .unset, .unset] [(.int (3 : Int32))])) _
        refine XS.iconst X0.here hx rfl (hb hby at_295) ?_
        show Steps p.tables e below (s₁.setTop (mkF m 296 #[.val (.int p0), .val (.int p1), .val (.int p2), .val (.int p3), .val (.int p4), .val (.int (3 : Int32)), .val (.int cx), .val (.int cy), .val (.int cz), .unset, .unset, .unset, .unset, .unset] [(.int (2 : Int32)), (.int (3 : Int32))])) _
        refine XS.icmpYes X0.here hx rfl (pc0 := 296) (pc' := 414) rfl (hb hby at_296) rfl (feq (by decide)).2 (by decide) (by decide) ?_
        show Steps p.tables e below (s₁.setTop (mkF m 414 #[.val (.int p0), .val (.int p1), .val (.int p2), .val (.int p3), .val (.int p4), .val (.int (3 : Int32)), .val (.int cx), .val (.int cy), .val (.int cz), .unset, .unset, .unset, .unset, .unset] [])) _
        refine XS.iload X0.here hx rfl (hb hby at_414) rfl ?_
        show Steps p.tables e below (s₁.setTop (mkF m 416 #[.val (.int p0), .val (.int p1), .val (.int p2), .val (.int p3), .val (.int p4), .val (.int (3 : Int32)), .val (.int cx), .val (.int cy), .val (.int cz), .unset, .unset, .unset, .unset, .unset] [(.int (3 : Int32))])) _
        refine XS.iconst X0.here hx rfl (hb hby at_416) ?_
        show Steps p.tables e below (s₁.setTop (mkF m 417 #[.val (.int p0), .val (.int p1), .val (.int p2), .val (.int p3), .val (.int p4), .val (.int (3 : Int32)), .val (.int cx), .val (.int cy), .val (.int cz), .unset, .unset, .unset, .unset, .unset] [(.int (3 : Int32)), (.int (3 : Int32))])) _
        refine XS.icmpNo X0.here hx rfl (hb hby at_417) rfl (teq (by decide)).2 ?_
        show Steps p.tables e below (s₁.setTop (mkF m 420 #[.val (.int p0), .val (.int p1), .val (.int p2), .val (.int p3), .val (.int p4), .val (.int (3 : Int32)), .val (.int cx), .val (.int cy), .val (.int cz), .unset, .unset, .unset, .unset, .unset] [])) _
        refine XS.iloadN X0.here hx rfl (hb hby at_420) rfl ?_
        show Steps p.tables e below (s₁.setTop (mkF m 421 #[.val (.int p0), .val (.int p1), .val (.int p2), .val (.int p3), .val (.int p4), .val (.int (3 : Int32)), .val (.int cx), .val (.int cy), .val (.int cz), .unset, .unset, .unset, .unset, .unset] [(.int p1)])) _
        refine X0.ldcInt hx hown (mvT hZ (hw _ (List.mem_of_getElem? (i := 0) rfl))) (g := (mkF m 421 #[.val (.int p0), .val (.int p1), .val (.int p2), .val (.int p3), .val (.int p4), .val (.int (3 : Int32)), .val (.int cx), .val (.int cy), .val (.int cz), .unset, .unset, .unset, .unset, .unset] [(.int p1)])) rfl (hb hby at_421) _ ?_
        show Steps p.tables e below (s₁.setTop (mkF m 423 #[.val (.int p0), .val (.int p1), .val (.int p2), .val (.int p3), .val (.int p4), .val (.int (3 : Int32)), .val (.int cx), .val (.int cy), .val (.int cz), .unset, .unset, .unset, .unset, .unset] [(.int (2147483647 : Int32)), (.int p1)])) _
        refine XS.iand X0.here hx rfl (hb hby at_423) rfl ?_
        show Steps p.tables e below (s₁.setTop (mkF m 424 #[.val (.int p0), .val (.int p1), .val (.int p2), .val (.int p3), .val (.int p4), .val (.int (3 : Int32)), .val (.int cx), .val (.int cy), .val (.int cz), .unset, .unset, .unset, .unset, .unset] [(.int (p1 &&& (2147483647 : Int32)))])) _
        refine XS.bipush X0.here hx rfl (hb hby at_424) ?_
        show Steps p.tables e below (s₁.setTop (mkF m 426 #[.val (.int p0), .val (.int p1), .val (.int p2), .val (.int p3), .val (.int p4), .val (.int (3 : Int32)), .val (.int cx), .val (.int cy), .val (.int cz), .unset, .unset, .unset, .unset, .unset] [(.int (6 : Int32)), (.int (p1 &&& (2147483647 : Int32)))])) _
        refine iremM X0 hx rfl (hb hby at_426) rfl (by decide) ?_
        show Steps p.tables e below (s₁.setTop (mkF m 427 #[.val (.int p0), .val (.int p1), .val (.int p2), .val (.int p3), .val (.int p4), .val (.int (3 : Int32)), .val (.int cx), .val (.int cy), .val (.int cz), .unset, .unset, .unset, .unset, .unset] [(.int ((p1 &&& (2147483647 : Int32)) % (6 : Int32)))])) _
        refine XS.istore X0.here hx rfl (hb hby at_427) rfl (l' := #[.val (.int p0), .val (.int p1), .val (.int p2), .val (.int p3), .val (.int p4), .val (.int (3 : Int32)), .val (.int cx), .val (.int cy), .val (.int cz), .unset, .unset, .val (.int ((p1 &&& (2147483647 : Int32)) % (6 : Int32))), .unset, .unset]) rfl ?_
        show Steps p.tables e below (s₁.setTop (mkF m 429 #[.val (.int p0), .val (.int p1), .val (.int p2), .val (.int p3), .val (.int p4), .val (.int (3 : Int32)), .val (.int cx), .val (.int cy), .val (.int cz), .unset, .unset, .val (.int ((p1 &&& (2147483647 : Int32)) % (6 : Int32))), .unset, .unset] [])) _
        exact kt
      obtain ⟨jj, h_jj⟩ : ∃ z, z = ((p1 &&& (2147483647 : Int32)) % (6 : Int32)) := ⟨_, rfl⟩
      rw [← h_jj] at K213
      rcases own_j h_jj with hj6 | hj6 | hj6 | hj6 | hj6 | hj6
      ·
        rw [hj6] at K213
        have K214 : ∀ t, Steps p.tables e below (s₁.setTop (mkF m 434 #[.val (.int p0), .val (.int p1), .val (.int p2), .val (.int p3), .val (.int p4), .val (.int (3 : Int32)), .val (.int cx), .val (.int cy), .val (.int cz), .unset, .unset, .val (.int (0 : Int32)), .unset, .unset] [])) t → Steps p.tables e below G0 t := by
          intro t kt
          refine K213 t ?_
          refine XS.iload X0.here hx rfl (hb hby at_429) rfl ?_
          show Steps p.tables e below (s₁.setTop (mkF m 431 #[.val (.int p0), .val (.int p1), .val (.int p2), .val (.int p3), .val (.int p4), .val (.int (3 : Int32)), .val (.int cx), .val (.int cy), .val (.int cz), .unset, .unset, .val (.int (0 : Int32)), .unset, .unset] [(.int (0 : Int32))])) _
          refine XS.ifNo X0.here hx rfl (hb hby at_431) rfl ((if0 _ _).trans (teq (by decide)).2) ?_
          show Steps p.tables e below (s₁.setTop (mkF m 434 #[.val (.int p0), .val (.int p1), .val (.int p2), .val (.int p3), .val (.int p4), .val (.int (3 : Int32)), .val (.int cx), .val (.int cy), .val (.int cz), .unset, .unset, .val (.int (0 : Int32)), .unset, .unset] [])) _
          exact kt
        obtain ⟨a215, T215, h215, kk215, bb215, kc215, X215, e215, E215, hS215, hk215, hZ215, hown215, LE215, LC215, LV215, LA215, la215, lb215, CR215, -, -, st215⟩ := ldcCH X0 hx hZ hown (hw _ (List.mem_of_getElem? (i := 55) rfl)) (own_wS hw) e0 hS0 hk0 hEL (by decide +kernel) CH0.1 (vs := [(.int (97 : Int32)), (.int (112 : Int32)), (.int (112 : Int32)), (.int (108 : Int32)), (.int (105 : Int32)), (.int (99 : Int32)), (.int (97 : Int32)), (.int (116 : Int32)), (.int (105 : Int32)), (.int (111 : Int32)), (.int (110 : Int32)), (.int (47 : Int32)), (.int (106 : Int32)), (.int (115 : Int32)), (.int (111 : Int32)), (.int (110 : Int32))]) (z := (16 : Int32)) ⟨by decide, by decide⟩ (by decide) (by decide) (g := (mkF m 434 #[.val (.int p0), .val (.int p1), .val (.int p2), .val (.int p3), .val (.int p4), .val (.int (3 : Int32)), .val (.int cx), .val (.int cy), .val (.int cz), .unset, .unset, .val (.int (0 : Int32)), .unset, .unset] [])) rfl (hb hby at_434) (n := 64) (by decide) (by decide) (by decide) (by decide)
        have K215 : ∀ t, Steps p.tables e below (T215.setTop (mkF m 436 #[.val (.int p0), .val (.int p1), .val (.int p2), .val (.int p3), .val (.int p4), .val (.int (3 : Int32)), .val (.int cx), .val (.int cy), .val (.int cz), .unset, .unset, .val (.int (0 : Int32)), .unset, .unset] [(.ref a215)])) t → Steps p.tables e below G0 t := fun t kt => K214 t (st215 _ kt)
        have Z215 : n0 ≤ h215.size := Nat.le_trans Z0 E215.1
        have CH215 := CH0.trans CR215
        have hl215 : ((([(97 : Int32), (112 : Int32), (112 : Int32), (108 : Int32), (105 : Int32), (99 : Int32), (97 : Int32), (116 : Int32), (105 : Int32), (111 : Int32), (110 : Int32), (47 : Int32), (106 : Int32), (115 : Int32), (111 : Int32), (110 : Int32)] : List Int32).map StrChars.lo8).map Value.int) = [(.int (97 : Int32)), (.int (112 : Int32)), (.int (112 : Int32)), (.int (108 : Int32)), (.int (105 : Int32)), (.int (99 : Int32)), (.int (97 : Int32)), (.int (116 : Int32)), (.int (105 : Int32)), (.int (111 : Int32)), (.int (110 : Int32)), (.int (47 : Int32)), (.int (106 : Int32)), (.int (115 : Int32)), (.int (111 : Int32)), (.int (110 : Int32))] := by decide +kernel
        have sl215 : own_Str Z h215 a215 [(97 : Int32), (112 : Int32), (112 : Int32), (108 : Int32), (105 : Int32), (99 : Int32), (97 : Int32), (116 : Int32), (105 : Int32), (111 : Int32), (110 : Int32), (47 : Int32), (106 : Int32), (115 : Int32), (111 : Int32), (110 : Int32)] := ⟨LE215, LC215, ⟨_, _, LV215, by rw [hl215]; exact LA215⟩, by decide, by decide⟩
        have K216 : ∀ t, Steps p.tables e below (T215.setTop (mkF m 510 #[.val (.int p0), .val (.int p1), .val (.int p2), .val (.int p3), .val (.int p4), .val (.int (3 : Int32)), .val (.int cx), .val (.int cy), .val (.int cz), .val (.ref a215), .val (.int (0 : Int32)), .val (.int (0 : Int32)), .unset, .unset] [])) t → Steps p.tables e below G0 t := by
          intro t kt
          refine K215 t ?_
          refine XS.astore X215.here hx rfl (hb hby at_436) rfl rfl (l' := #[.val (.int p0), .val (.int p1), .val (.int p2), .val (.int p3), .val (.int p4), .val (.int (3 : Int32)), .val (.int cx), .val (.int cy), .val (.int cz), .val (.ref a215), .unset, .val (.int (0 : Int32)), .unset, .unset]) rfl ?_
          show Steps p.tables e below (T215.setTop (mkF m 438 #[.val (.int p0), .val (.int p1), .val (.int p2), .val (.int p3), .val (.int p4), .val (.int (3 : Int32)), .val (.int cx), .val (.int cy), .val (.int cz), .val (.ref a215), .unset, .val (.int (0 : Int32)), .unset, .unset] [])) _
          refine XS.goto X215.here hx rfl (pc0 := 438) (pc' := 497) rfl (hb hby at_438) (by decide) (by decide) ?_
          show Steps p.tables e below (T215.setTop (mkF m 497 #[.val (.int p0), .val (.int p1), .val (.int p2), .val (.int p3), .val (.int p4), .val (.int (3 : Int32)), .val (.int cx), .val (.int cy), .val (.int cz), .val (.ref a215), .unset, .val (.int (0 : Int32)), .unset, .unset] [])) _
          refine XS.iconst X215.here hx rfl (hb hby at_497) ?_
          show Steps p.tables e below (T215.setTop (mkF m 498 #[.val (.int p0), .val (.int p1), .val (.int p2), .val (.int p3), .val (.int p4), .val (.int (3 : Int32)), .val (.int cx), .val (.int cy), .val (.int cz), .val (.ref a215), .unset, .val (.int (0 : Int32)), .unset, .unset] [(.int (0 : Int32))])) _
          refine XS.istore X215.here hx rfl (hb hby at_498) rfl (l' := #[.val (.int p0), .val (.int p1), .val (.int p2), .val (.int p3), .val (.int p4), .val (.int (3 : Int32)), .val (.int cx), .val (.int cy), .val (.int cz), .val (.ref a215), .val (.int (0 : Int32)), .val (.int (0 : Int32)), .unset, .unset]) rfl ?_
          show Steps p.tables e below (T215.setTop (mkF m 500 #[.val (.int p0), .val (.int p1), .val (.int p2), .val (.int p3), .val (.int p4), .val (.int (3 : Int32)), .val (.int cx), .val (.int cy), .val (.int cz), .val (.ref a215), .val (.int (0 : Int32)), .val (.int (0 : Int32)), .unset, .unset] [])) _
          refine XS.goto X215.here hx rfl (pc0 := 500) (pc' := 510) rfl (hb hby at_500) (by decide) (by decide) ?_
          show Steps p.tables e below (T215.setTop (mkF m 510 #[.val (.int p0), .val (.int p1), .val (.int p2), .val (.int p3), .val (.int p4), .val (.int (3 : Int32)), .val (.int cx), .val (.int cy), .val (.int cz), .val (.ref a215), .val (.int (0 : Int32)), .val (.int (0 : Int32)), .unset, .unset] [])) _
          exact kt
        have f217 := (HO.ext E215)
        have hq : own_q [(97 : Int32), (112 : Int32), (112 : Int32), (108 : Int32), (105 : Int32), (99 : Int32), (97 : Int32), (116 : Int32), (105 : Int32), (111 : Int32), (110 : Int32), (47 : Int32), (106 : Int32), (115 : Int32), (111 : Int32), (110 : Int32)] own_html = (0 : Int32) := by decide
        exact ⟨_, _, _, _, _, a215, [(97 : Int32), (112 : Int32), (112 : Int32), (108 : Int32), (105 : Int32), (99 : Int32), (97 : Int32), (116 : Int32), (105 : Int32), (111 : Int32), (110 : Int32), (47 : Int32), (106 : Int32), (115 : Int32), (111 : Int32), (110 : Int32)], .val (.int (0 : Int32)), .unset, .unset, X215.more (Nat.le_of_ble_eq_true rfl) (Nat.le_of_ble_eq_true rfl), e215, N0, Z215, hS215, hk215, hZ215, hown215, CH215, f217, sl215, (One.val rfl), fun t kt => K216 t (by rw [hq, hk5] at kt; exact kt)⟩
      ·
        rw [hj6] at K213
        have K218 : ∀ t, Steps p.tables e below (s₁.setTop (mkF m 447 #[.val (.int p0), .val (.int p1), .val (.int p2), .val (.int p3), .val (.int p4), .val (.int (3 : Int32)), .val (.int cx), .val (.int cy), .val (.int cz), .unset, .unset, .val (.int (1 : Int32)), .unset, .unset] [])) t → Steps p.tables e below G0 t := by
          intro t kt
          refine K213 t ?_
          refine XS.iload X0.here hx rfl (hb hby at_429) rfl ?_
          show Steps p.tables e below (s₁.setTop (mkF m 431 #[.val (.int p0), .val (.int p1), .val (.int p2), .val (.int p3), .val (.int p4), .val (.int (3 : Int32)), .val (.int cx), .val (.int cy), .val (.int cz), .unset, .unset, .val (.int (1 : Int32)), .unset, .unset] [(.int (1 : Int32))])) _
          refine XS.ifYes X0.here hx rfl (pc0 := 431) (pc' := 441) rfl (hb hby at_431) rfl ((if0 _ _).trans (feq (by decide)).2) (by decide) (by decide) ?_
          show Steps p.tables e below (s₁.setTop (mkF m 441 #[.val (.int p0), .val (.int p1), .val (.int p2), .val (.int p3), .val (.int p4), .val (.int (3 : Int32)), .val (.int cx), .val (.int cy), .val (.int cz), .unset, .unset, .val (.int (1 : Int32)), .unset, .unset] [])) _
          refine XS.iload X0.here hx rfl (hb hby at_441) rfl ?_
          show Steps p.tables e below (s₁.setTop (mkF m 443 #[.val (.int p0), .val (.int p1), .val (.int p2), .val (.int p3), .val (.int p4), .val (.int (3 : Int32)), .val (.int cx), .val (.int cy), .val (.int cz), .unset, .unset, .val (.int (1 : Int32)), .unset, .unset] [(.int (1 : Int32))])) _
          refine XS.iconst X0.here hx rfl (hb hby at_443) ?_
          show Steps p.tables e below (s₁.setTop (mkF m 444 #[.val (.int p0), .val (.int p1), .val (.int p2), .val (.int p3), .val (.int p4), .val (.int (3 : Int32)), .val (.int cx), .val (.int cy), .val (.int cz), .unset, .unset, .val (.int (1 : Int32)), .unset, .unset] [(.int (1 : Int32)), (.int (1 : Int32))])) _
          refine XS.icmpNo X0.here hx rfl (hb hby at_444) rfl (teq (by decide)).2 ?_
          show Steps p.tables e below (s₁.setTop (mkF m 447 #[.val (.int p0), .val (.int p1), .val (.int p2), .val (.int p3), .val (.int p4), .val (.int (3 : Int32)), .val (.int cx), .val (.int cy), .val (.int cz), .unset, .unset, .val (.int (1 : Int32)), .unset, .unset] [])) _
          exact kt
        obtain ⟨a219, T219, h219, kk219, bb219, kc219, X219, e219, E219, hS219, hk219, hZ219, hown219, LE219, LC219, LV219, LA219, la219, lb219, CR219, -, -, st219⟩ := ldcCH X0 hx hZ hown (hw _ (List.mem_of_getElem? (i := 53) rfl)) (own_wS hw) e0 hS0 hk0 hEL (by decide +kernel) CH0.1 (vs := [(.int (97 : Int32)), (.int (112 : Int32)), (.int (112 : Int32)), (.int (108 : Int32)), (.int (105 : Int32)), (.int (99 : Int32)), (.int (97 : Int32)), (.int (116 : Int32)), (.int (105 : Int32)), (.int (111 : Int32)), (.int (110 : Int32)), (.int (47 : Int32)), (.int (108 : Int32)), (.int (100 : Int32)), (.int (43 : Int32)), (.int (106 : Int32)), (.int (115 : Int32)), (.int (111 : Int32)), (.int (110 : Int32))]) (z := (19 : Int32)) ⟨by decide, by decide⟩ (by decide) (by decide) (g := (mkF m 447 #[.val (.int p0), .val (.int p1), .val (.int p2), .val (.int p3), .val (.int p4), .val (.int (3 : Int32)), .val (.int cx), .val (.int cy), .val (.int cz), .unset, .unset, .val (.int (1 : Int32)), .unset, .unset] [])) rfl (hb hby at_447) (n := 76) (by decide) (by decide) (by decide) (by decide)
        have K219 : ∀ t, Steps p.tables e below (T219.setTop (mkF m 449 #[.val (.int p0), .val (.int p1), .val (.int p2), .val (.int p3), .val (.int p4), .val (.int (3 : Int32)), .val (.int cx), .val (.int cy), .val (.int cz), .unset, .unset, .val (.int (1 : Int32)), .unset, .unset] [(.ref a219)])) t → Steps p.tables e below G0 t := fun t kt => K218 t (st219 _ kt)
        have Z219 : n0 ≤ h219.size := Nat.le_trans Z0 E219.1
        have CH219 := CH0.trans CR219
        have hl219 : ((([(97 : Int32), (112 : Int32), (112 : Int32), (108 : Int32), (105 : Int32), (99 : Int32), (97 : Int32), (116 : Int32), (105 : Int32), (111 : Int32), (110 : Int32), (47 : Int32), (108 : Int32), (100 : Int32), (43 : Int32), (106 : Int32), (115 : Int32), (111 : Int32), (110 : Int32)] : List Int32).map StrChars.lo8).map Value.int) = [(.int (97 : Int32)), (.int (112 : Int32)), (.int (112 : Int32)), (.int (108 : Int32)), (.int (105 : Int32)), (.int (99 : Int32)), (.int (97 : Int32)), (.int (116 : Int32)), (.int (105 : Int32)), (.int (111 : Int32)), (.int (110 : Int32)), (.int (47 : Int32)), (.int (108 : Int32)), (.int (100 : Int32)), (.int (43 : Int32)), (.int (106 : Int32)), (.int (115 : Int32)), (.int (111 : Int32)), (.int (110 : Int32))] := by decide +kernel
        have sl219 : own_Str Z h219 a219 [(97 : Int32), (112 : Int32), (112 : Int32), (108 : Int32), (105 : Int32), (99 : Int32), (97 : Int32), (116 : Int32), (105 : Int32), (111 : Int32), (110 : Int32), (47 : Int32), (108 : Int32), (100 : Int32), (43 : Int32), (106 : Int32), (115 : Int32), (111 : Int32), (110 : Int32)] := ⟨LE219, LC219, ⟨_, _, LV219, by rw [hl219]; exact LA219⟩, by decide, by decide⟩
        have K220 : ∀ t, Steps p.tables e below (T219.setTop (mkF m 510 #[.val (.int p0), .val (.int p1), .val (.int p2), .val (.int p3), .val (.int p4), .val (.int (3 : Int32)), .val (.int cx), .val (.int cy), .val (.int cz), .val (.ref a219), .val (.int (0 : Int32)), .val (.int (1 : Int32)), .unset, .unset] [])) t → Steps p.tables e below G0 t := by
          intro t kt
          refine K219 t ?_
          refine XS.astore X219.here hx rfl (hb hby at_449) rfl rfl (l' := #[.val (.int p0), .val (.int p1), .val (.int p2), .val (.int p3), .val (.int p4), .val (.int (3 : Int32)), .val (.int cx), .val (.int cy), .val (.int cz), .val (.ref a219), .unset, .val (.int (1 : Int32)), .unset, .unset]) rfl ?_
          show Steps p.tables e below (T219.setTop (mkF m 451 #[.val (.int p0), .val (.int p1), .val (.int p2), .val (.int p3), .val (.int p4), .val (.int (3 : Int32)), .val (.int cx), .val (.int cy), .val (.int cz), .val (.ref a219), .unset, .val (.int (1 : Int32)), .unset, .unset] [])) _
          refine XS.goto X219.here hx rfl (pc0 := 451) (pc' := 497) rfl (hb hby at_451) (by decide) (by decide) ?_
          show Steps p.tables e below (T219.setTop (mkF m 497 #[.val (.int p0), .val (.int p1), .val (.int p2), .val (.int p3), .val (.int p4), .val (.int (3 : Int32)), .val (.int cx), .val (.int cy), .val (.int cz), .val (.ref a219), .unset, .val (.int (1 : Int32)), .unset, .unset] [])) _
          refine XS.iconst X219.here hx rfl (hb hby at_497) ?_
          show Steps p.tables e below (T219.setTop (mkF m 498 #[.val (.int p0), .val (.int p1), .val (.int p2), .val (.int p3), .val (.int p4), .val (.int (3 : Int32)), .val (.int cx), .val (.int cy), .val (.int cz), .val (.ref a219), .unset, .val (.int (1 : Int32)), .unset, .unset] [(.int (0 : Int32))])) _
          refine XS.istore X219.here hx rfl (hb hby at_498) rfl (l' := #[.val (.int p0), .val (.int p1), .val (.int p2), .val (.int p3), .val (.int p4), .val (.int (3 : Int32)), .val (.int cx), .val (.int cy), .val (.int cz), .val (.ref a219), .val (.int (0 : Int32)), .val (.int (1 : Int32)), .unset, .unset]) rfl ?_
          show Steps p.tables e below (T219.setTop (mkF m 500 #[.val (.int p0), .val (.int p1), .val (.int p2), .val (.int p3), .val (.int p4), .val (.int (3 : Int32)), .val (.int cx), .val (.int cy), .val (.int cz), .val (.ref a219), .val (.int (0 : Int32)), .val (.int (1 : Int32)), .unset, .unset] [])) _
          refine XS.goto X219.here hx rfl (pc0 := 500) (pc' := 510) rfl (hb hby at_500) (by decide) (by decide) ?_
          show Steps p.tables e below (T219.setTop (mkF m 510 #[.val (.int p0), .val (.int p1), .val (.int p2), .val (.int p3), .val (.int p4), .val (.int (3 : Int32)), .val (.int cx), .val (.int cy), .val (.int cz), .val (.ref a219), .val (.int (0 : Int32)), .val (.int (1 : Int32)), .unset, .unset] [])) _
          exact kt
        have f221 := (HO.ext E219)
        have hq : own_q [(97 : Int32), (112 : Int32), (112 : Int32), (108 : Int32), (105 : Int32), (99 : Int32), (97 : Int32), (116 : Int32), (105 : Int32), (111 : Int32), (110 : Int32), (47 : Int32), (108 : Int32), (100 : Int32), (43 : Int32), (106 : Int32), (115 : Int32), (111 : Int32), (110 : Int32)] own_html = (0 : Int32) := by decide
        exact ⟨_, _, _, _, _, a219, [(97 : Int32), (112 : Int32), (112 : Int32), (108 : Int32), (105 : Int32), (99 : Int32), (97 : Int32), (116 : Int32), (105 : Int32), (111 : Int32), (110 : Int32), (47 : Int32), (108 : Int32), (100 : Int32), (43 : Int32), (106 : Int32), (115 : Int32), (111 : Int32), (110 : Int32)], .val (.int (1 : Int32)), .unset, .unset, X219.more (Nat.le_of_ble_eq_true rfl) (Nat.le_of_ble_eq_true rfl), e219, N0, Z219, hS219, hk219, hZ219, hown219, CH219, f221, sl219, (One.val rfl), fun t kt => K220 t (by rw [hq, hk5] at kt; exact kt)⟩
      ·
        rw [hj6] at K213
        have K222 : ∀ t, Steps p.tables e below (s₁.setTop (mkF m 460 #[.val (.int p0), .val (.int p1), .val (.int p2), .val (.int p3), .val (.int p4), .val (.int (3 : Int32)), .val (.int cx), .val (.int cy), .val (.int cz), .unset, .unset, .val (.int (2 : Int32)), .unset, .unset] [])) t → Steps p.tables e below G0 t := by
          intro t kt
          refine K213 t ?_
          refine XS.iload X0.here hx rfl (hb hby at_429) rfl ?_
          show Steps p.tables e below (s₁.setTop (mkF m 431 #[.val (.int p0), .val (.int p1), .val (.int p2), .val (.int p3), .val (.int p4), .val (.int (3 : Int32)), .val (.int cx), .val (.int cy), .val (.int cz), .unset, .unset, .val (.int (2 : Int32)), .unset, .unset] [(.int (2 : Int32))])) _
          refine XS.ifYes X0.here hx rfl (pc0 := 431) (pc' := 441) rfl (hb hby at_431) rfl ((if0 _ _).trans (feq (by decide)).2) (by decide) (by decide) ?_
          show Steps p.tables e below (s₁.setTop (mkF m 441 #[.val (.int p0), .val (.int p1), .val (.int p2), .val (.int p3), .val (.int p4), .val (.int (3 : Int32)), .val (.int cx), .val (.int cy), .val (.int cz), .unset, .unset, .val (.int (2 : Int32)), .unset, .unset] [])) _
          refine XS.iload X0.here hx rfl (hb hby at_441) rfl ?_
          show Steps p.tables e below (s₁.setTop (mkF m 443 #[.val (.int p0), .val (.int p1), .val (.int p2), .val (.int p3), .val (.int p4), .val (.int (3 : Int32)), .val (.int cx), .val (.int cy), .val (.int cz), .unset, .unset, .val (.int (2 : Int32)), .unset, .unset] [(.int (2 : Int32))])) _
          refine XS.iconst X0.here hx rfl (hb hby at_443) ?_
          show Steps p.tables e below (s₁.setTop (mkF m 444 #[.val (.int p0), .val (.int p1), .val (.int p2), .val (.int p3), .val (.int p4), .val (.int (3 : Int32)), .val (.int cx), .val (.int cy), .val (.int cz), .unset, .unset, .val (.int (2 : Int32)), .unset, .unset] [(.int (1 : Int32)), (.int (2 : Int32))])) _
          refine XS.icmpYes X0.here hx rfl (pc0 := 444) (pc' := 454) rfl (hb hby at_444) rfl (feq (by decide)).2 (by decide) (by decide) ?_
          show Steps p.tables e below (s₁.setTop (mkF m 454 #[.val (.int p0), .val (.int p1), .val (.int p2), .val (.int p3), .val (.int p4), .val (.int (3 : Int32)), .val (.int cx), .val (.int cy), .val (.int cz), .unset, .unset, .val (.int (2 : Int32)), .unset, .unset] [])) _
          refine XS.iload X0.here hx rfl (hb hby at_454) rfl ?_
          show Steps p.tables e below (s₁.setTop (mkF m 456 #[.val (.int p0), .val (.int p1), .val (.int p2), .val (.int p3), .val (.int p4), .val (.int (3 : Int32)), .val (.int cx), .val (.int cy), .val (.int cz), .unset, .unset, .val (.int (2 : Int32)), .unset, .unset] [(.int (2 : Int32))])) _
          refine XS.iconst X0.here hx rfl (hb hby at_456) ?_
          show Steps p.tables e below (s₁.setTop (mkF m 457 #[.val (.int p0), .val (.int p1), .val (.int p2), .val (.int p3), .val (.int p4), .val (.int (3 : Int32)), .val (.int cx), .val (.int cy), .val (.int cz), .unset, .unset, .val (.int (2 : Int32)), .unset, .unset] [(.int (2 : Int32)), (.int (2 : Int32))])) _
          refine XS.icmpNo X0.here hx rfl (hb hby at_457) rfl (teq (by decide)).2 ?_
          show Steps p.tables e below (s₁.setTop (mkF m 460 #[.val (.int p0), .val (.int p1), .val (.int p2), .val (.int p3), .val (.int p4), .val (.int (3 : Int32)), .val (.int cx), .val (.int cy), .val (.int cz), .unset, .unset, .val (.int (2 : Int32)), .unset, .unset] [])) _
          exact kt
        obtain ⟨a223, T223, h223, kk223, bb223, kc223, X223, e223, E223, hS223, hk223, hZ223, hown223, LE223, LC223, LV223, LA223, la223, lb223, CR223, -, -, st223⟩ := ldcCH X0 hx hZ hown (hw _ (List.mem_of_getElem? (i := 57) rfl)) (own_wS hw) e0 hS0 hk0 hEL (by decide +kernel) CH0.1 (vs := [(.int (97 : Int32)), (.int (112 : Int32)), (.int (112 : Int32)), (.int (108 : Int32)), (.int (105 : Int32)), (.int (99 : Int32)), (.int (97 : Int32)), (.int (116 : Int32)), (.int (105 : Int32)), (.int (111 : Int32)), (.int (110 : Int32)), (.int (47 : Int32)), (.int (109 : Int32)), (.int (101 : Int32)), (.int (114 : Int32)), (.int (103 : Int32)), (.int (101 : Int32)), (.int (45 : Int32)), (.int (112 : Int32)), (.int (97 : Int32)), (.int (116 : Int32)), (.int (99 : Int32)), (.int (104 : Int32)), (.int (43 : Int32)), (.int (106 : Int32)), (.int (115 : Int32)), (.int (111 : Int32)), (.int (110 : Int32))]) (z := (28 : Int32)) ⟨by decide, by decide⟩ (by decide) (by decide) (g := (mkF m 460 #[.val (.int p0), .val (.int p1), .val (.int p2), .val (.int p3), .val (.int p4), .val (.int (3 : Int32)), .val (.int cx), .val (.int cy), .val (.int cz), .unset, .unset, .val (.int (2 : Int32)), .unset, .unset] [])) rfl (hb hby at_460) (n := 112) (by decide) (by decide) (by decide) (by decide)
        have K223 : ∀ t, Steps p.tables e below (T223.setTop (mkF m 462 #[.val (.int p0), .val (.int p1), .val (.int p2), .val (.int p3), .val (.int p4), .val (.int (3 : Int32)), .val (.int cx), .val (.int cy), .val (.int cz), .unset, .unset, .val (.int (2 : Int32)), .unset, .unset] [(.ref a223)])) t → Steps p.tables e below G0 t := fun t kt => K222 t (st223 _ kt)
        have Z223 : n0 ≤ h223.size := Nat.le_trans Z0 E223.1
        have CH223 := CH0.trans CR223
        have hl223 : ((([(97 : Int32), (112 : Int32), (112 : Int32), (108 : Int32), (105 : Int32), (99 : Int32), (97 : Int32), (116 : Int32), (105 : Int32), (111 : Int32), (110 : Int32), (47 : Int32), (109 : Int32), (101 : Int32), (114 : Int32), (103 : Int32), (101 : Int32), (45 : Int32), (112 : Int32), (97 : Int32), (116 : Int32), (99 : Int32), (104 : Int32), (43 : Int32), (106 : Int32), (115 : Int32), (111 : Int32), (110 : Int32)] : List Int32).map StrChars.lo8).map Value.int) = [(.int (97 : Int32)), (.int (112 : Int32)), (.int (112 : Int32)), (.int (108 : Int32)), (.int (105 : Int32)), (.int (99 : Int32)), (.int (97 : Int32)), (.int (116 : Int32)), (.int (105 : Int32)), (.int (111 : Int32)), (.int (110 : Int32)), (.int (47 : Int32)), (.int (109 : Int32)), (.int (101 : Int32)), (.int (114 : Int32)), (.int (103 : Int32)), (.int (101 : Int32)), (.int (45 : Int32)), (.int (112 : Int32)), (.int (97 : Int32)), (.int (116 : Int32)), (.int (99 : Int32)), (.int (104 : Int32)), (.int (43 : Int32)), (.int (106 : Int32)), (.int (115 : Int32)), (.int (111 : Int32)), (.int (110 : Int32))] := by decide +kernel
        have sl223 : own_Str Z h223 a223 [(97 : Int32), (112 : Int32), (112 : Int32), (108 : Int32), (105 : Int32), (99 : Int32), (97 : Int32), (116 : Int32), (105 : Int32), (111 : Int32), (110 : Int32), (47 : Int32), (109 : Int32), (101 : Int32), (114 : Int32), (103 : Int32), (101 : Int32), (45 : Int32), (112 : Int32), (97 : Int32), (116 : Int32), (99 : Int32), (104 : Int32), (43 : Int32), (106 : Int32), (115 : Int32), (111 : Int32), (110 : Int32)] := ⟨LE223, LC223, ⟨_, _, LV223, by rw [hl223]; exact LA223⟩, by decide, by decide⟩
        have K224 : ∀ t, Steps p.tables e below (T223.setTop (mkF m 510 #[.val (.int p0), .val (.int p1), .val (.int p2), .val (.int p3), .val (.int p4), .val (.int (3 : Int32)), .val (.int cx), .val (.int cy), .val (.int cz), .val (.ref a223), .val (.int (0 : Int32)), .val (.int (2 : Int32)), .unset, .unset] [])) t → Steps p.tables e below G0 t := by
          intro t kt
          refine K223 t ?_
          refine XS.astore X223.here hx rfl (hb hby at_462) rfl rfl (l' := #[.val (.int p0), .val (.int p1), .val (.int p2), .val (.int p3), .val (.int p4), .val (.int (3 : Int32)), .val (.int cx), .val (.int cy), .val (.int cz), .val (.ref a223), .unset, .val (.int (2 : Int32)), .unset, .unset]) rfl ?_
          show Steps p.tables e below (T223.setTop (mkF m 464 #[.val (.int p0), .val (.int p1), .val (.int p2), .val (.int p3), .val (.int p4), .val (.int (3 : Int32)), .val (.int cx), .val (.int cy), .val (.int cz), .val (.ref a223), .unset, .val (.int (2 : Int32)), .unset, .unset] [])) _
          refine XS.goto X223.here hx rfl (pc0 := 464) (pc' := 497) rfl (hb hby at_464) (by decide) (by decide) ?_
          show Steps p.tables e below (T223.setTop (mkF m 497 #[.val (.int p0), .val (.int p1), .val (.int p2), .val (.int p3), .val (.int p4), .val (.int (3 : Int32)), .val (.int cx), .val (.int cy), .val (.int cz), .val (.ref a223), .unset, .val (.int (2 : Int32)), .unset, .unset] [])) _
          refine XS.iconst X223.here hx rfl (hb hby at_497) ?_
          show Steps p.tables e below (T223.setTop (mkF m 498 #[.val (.int p0), .val (.int p1), .val (.int p2), .val (.int p3), .val (.int p4), .val (.int (3 : Int32)), .val (.int cx), .val (.int cy), .val (.int cz), .val (.ref a223), .unset, .val (.int (2 : Int32)), .unset, .unset] [(.int (0 : Int32))])) _
          refine XS.istore X223.here hx rfl (hb hby at_498) rfl (l' := #[.val (.int p0), .val (.int p1), .val (.int p2), .val (.int p3), .val (.int p4), .val (.int (3 : Int32)), .val (.int cx), .val (.int cy), .val (.int cz), .val (.ref a223), .val (.int (0 : Int32)), .val (.int (2 : Int32)), .unset, .unset]) rfl ?_
          show Steps p.tables e below (T223.setTop (mkF m 500 #[.val (.int p0), .val (.int p1), .val (.int p2), .val (.int p3), .val (.int p4), .val (.int (3 : Int32)), .val (.int cx), .val (.int cy), .val (.int cz), .val (.ref a223), .val (.int (0 : Int32)), .val (.int (2 : Int32)), .unset, .unset] [])) _
          refine XS.goto X223.here hx rfl (pc0 := 500) (pc' := 510) rfl (hb hby at_500) (by decide) (by decide) ?_
          show Steps p.tables e below (T223.setTop (mkF m 510 #[.val (.int p0), .val (.int p1), .val (.int p2), .val (.int p3), .val (.int p4), .val (.int (3 : Int32)), .val (.int cx), .val (.int cy), .val (.int cz), .val (.ref a223), .val (.int (0 : Int32)), .val (.int (2 : Int32)), .unset, .unset] [])) _
          exact kt
        have f225 := (HO.ext E223)
        have hq : own_q [(97 : Int32), (112 : Int32), (112 : Int32), (108 : Int32), (105 : Int32), (99 : Int32), (97 : Int32), (116 : Int32), (105 : Int32), (111 : Int32), (110 : Int32), (47 : Int32), (109 : Int32), (101 : Int32), (114 : Int32), (103 : Int32), (101 : Int32), (45 : Int32), (112 : Int32), (97 : Int32), (116 : Int32), (99 : Int32), (104 : Int32), (43 : Int32), (106 : Int32), (115 : Int32), (111 : Int32), (110 : Int32)] own_html = (0 : Int32) := by decide
        exact ⟨_, _, _, _, _, a223, [(97 : Int32), (112 : Int32), (112 : Int32), (108 : Int32), (105 : Int32), (99 : Int32), (97 : Int32), (116 : Int32), (105 : Int32), (111 : Int32), (110 : Int32), (47 : Int32), (109 : Int32), (101 : Int32), (114 : Int32), (103 : Int32), (101 : Int32), (45 : Int32), (112 : Int32), (97 : Int32), (116 : Int32), (99 : Int32), (104 : Int32), (43 : Int32), (106 : Int32), (115 : Int32), (111 : Int32), (110 : Int32)], .val (.int (2 : Int32)), .unset, .unset, X223.more (Nat.le_of_ble_eq_true rfl) (Nat.le_of_ble_eq_true rfl), e223, N0, Z223, hS223, hk223, hZ223, hown223, CH223, f225, sl223, (One.val rfl), fun t kt => K224 t (by rw [hq, hk5] at kt; exact kt)⟩
      ·
        rw [hj6] at K213
        have K226 : ∀ t, Steps p.tables e below (s₁.setTop (mkF m 473 #[.val (.int p0), .val (.int p1), .val (.int p2), .val (.int p3), .val (.int p4), .val (.int (3 : Int32)), .val (.int cx), .val (.int cy), .val (.int cz), .unset, .unset, .val (.int (3 : Int32)), .unset, .unset] [])) t → Steps p.tables e below G0 t := by
          intro t kt
          refine K213 t ?_
          refine XS.iload X0.here hx rfl (hb hby at_429) rfl ?_
          show Steps p.tables e below (s₁.setTop (mkF m 431 #[.val (.int p0), .val (.int p1), .val (.int p2), .val (.int p3), .val (.int p4), .val (.int (3 : Int32)), .val (.int cx), .val (.int cy), .val (.int cz), .unset, .unset, .val (.int (3 : Int32)), .unset, .unset] [(.int (3 : Int32))])) _
          refine XS.ifYes X0.here hx rfl (pc0 := 431) (pc' := 441) rfl (hb hby at_431) rfl ((if0 _ _).trans (feq (by decide)).2) (by decide) (by decide) ?_
          show Steps p.tables e below (s₁.setTop (mkF m 441 #[.val (.int p0), .val (.int p1), .val (.int p2), .val (.int p3), .val (.int p4), .val (.int (3 : Int32)), .val (.int cx), .val (.int cy), .val (.int cz), .unset, .unset, .val (.int (3 : Int32)), .unset, .unset] [])) _
          refine XS.iload X0.here hx rfl (hb hby at_441) rfl ?_
          show Steps p.tables e below (s₁.setTop (mkF m 443 #[.val (.int p0), .val (.int p1), .val (.int p2), .val (.int p3), .val (.int p4), .val (.int (3 : Int32)), .val (.int cx), .val (.int cy), .val (.int cz), .unset, .unset, .val (.int (3 : Int32)), .unset, .unset] [(.int (3 : Int32))])) _
          refine XS.iconst X0.here hx rfl (hb hby at_443) ?_
          show Steps p.tables e below (s₁.setTop (mkF m 444 #[.val (.int p0), .val (.int p1), .val (.int p2), .val (.int p3), .val (.int p4), .val (.int (3 : Int32)), .val (.int cx), .val (.int cy), .val (.int cz), .unset, .unset, .val (.int (3 : Int32)), .unset, .unset] [(.int (1 : Int32)), (.int (3 : Int32))])) _
          refine XS.icmpYes X0.here hx rfl (pc0 := 444) (pc' := 454) rfl (hb hby at_444) rfl (feq (by decide)).2 (by decide) (by decide) ?_
          show Steps p.tables e below (s₁.setTop (mkF m 454 #[.val (.int p0), .val (.int p1), .val (.int p2), .val (.int p3), .val (.int p4), .val (.int (3 : Int32)), .val (.int cx), .val (.int cy), .val (.int cz), .unset, .unset, .val (.int (3 : Int32)), .unset, .unset] [])) _
          refine XS.iload X0.here hx rfl (hb hby at_454) rfl ?_
          show Steps p.tables e below (s₁.setTop (mkF m 456 #[.val (.int p0), .val (.int p1), .val (.int p2), .val (.int p3), .val (.int p4), .val (.int (3 : Int32)), .val (.int cx), .val (.int cy), .val (.int cz), .unset, .unset, .val (.int (3 : Int32)), .unset, .unset] [(.int (3 : Int32))])) _
          refine XS.iconst X0.here hx rfl (hb hby at_456) ?_
          show Steps p.tables e below (s₁.setTop (mkF m 457 #[.val (.int p0), .val (.int p1), .val (.int p2), .val (.int p3), .val (.int p4), .val (.int (3 : Int32)), .val (.int cx), .val (.int cy), .val (.int cz), .unset, .unset, .val (.int (3 : Int32)), .unset, .unset] [(.int (2 : Int32)), (.int (3 : Int32))])) _
          refine XS.icmpYes X0.here hx rfl (pc0 := 457) (pc' := 467) rfl (hb hby at_457) rfl (feq (by decide)).2 (by decide) (by decide) ?_
          show Steps p.tables e below (s₁.setTop (mkF m 467 #[.val (.int p0), .val (.int p1), .val (.int p2), .val (.int p3), .val (.int p4), .val (.int (3 : Int32)), .val (.int cx), .val (.int cy), .val (.int cz), .unset, .unset, .val (.int (3 : Int32)), .unset, .unset] [])) _
          refine XS.iload X0.here hx rfl (hb hby at_467) rfl ?_
          show Steps p.tables e below (s₁.setTop (mkF m 469 #[.val (.int p0), .val (.int p1), .val (.int p2), .val (.int p3), .val (.int p4), .val (.int (3 : Int32)), .val (.int cx), .val (.int cy), .val (.int cz), .unset, .unset, .val (.int (3 : Int32)), .unset, .unset] [(.int (3 : Int32))])) _
          refine XS.iconst X0.here hx rfl (hb hby at_469) ?_
          show Steps p.tables e below (s₁.setTop (mkF m 470 #[.val (.int p0), .val (.int p1), .val (.int p2), .val (.int p3), .val (.int p4), .val (.int (3 : Int32)), .val (.int cx), .val (.int cy), .val (.int cz), .unset, .unset, .val (.int (3 : Int32)), .unset, .unset] [(.int (3 : Int32)), (.int (3 : Int32))])) _
          refine XS.icmpNo X0.here hx rfl (hb hby at_470) rfl (teq (by decide)).2 ?_
          show Steps p.tables e below (s₁.setTop (mkF m 473 #[.val (.int p0), .val (.int p1), .val (.int p2), .val (.int p3), .val (.int p4), .val (.int (3 : Int32)), .val (.int cx), .val (.int cy), .val (.int cz), .unset, .unset, .val (.int (3 : Int32)), .unset, .unset] [])) _
          exact kt
        obtain ⟨a227, T227, h227, kk227, bb227, kc227, X227, e227, E227, hS227, hk227, hZ227, hown227, LE227, LC227, LV227, LA227, la227, lb227, CR227, -, -, st227⟩ := ldcCH X0 hx hZ hown (hw _ (List.mem_of_getElem? (i := 58) rfl)) (own_wS hw) e0 hS0 hk0 hEL (by decide +kernel) CH0.1 (vs := [(.int (97 : Int32)), (.int (112 : Int32)), (.int (112 : Int32)), (.int (108 : Int32)), (.int (105 : Int32)), (.int (99 : Int32)), (.int (97 : Int32)), (.int (116 : Int32)), (.int (105 : Int32)), (.int (111 : Int32)), (.int (110 : Int32)), (.int (47 : Int32)), (.int (112 : Int32)), (.int (114 : Int32)), (.int (111 : Int32)), (.int (98 : Int32)), (.int (108 : Int32)), (.int (101 : Int32)), (.int (109 : Int32)), (.int (43 : Int32)), (.int (106 : Int32)), (.int (115 : Int32)), (.int (111 : Int32)), (.int (110 : Int32))]) (z := (24 : Int32)) ⟨by decide, by decide⟩ (by decide) (by decide) (g := (mkF m 473 #[.val (.int p0), .val (.int p1), .val (.int p2), .val (.int p3), .val (.int p4), .val (.int (3 : Int32)), .val (.int cx), .val (.int cy), .val (.int cz), .unset, .unset, .val (.int (3 : Int32)), .unset, .unset] [])) rfl (hb hby at_473) (n := 96) (by decide) (by decide) (by decide) (by decide)
        have K227 : ∀ t, Steps p.tables e below (T227.setTop (mkF m 475 #[.val (.int p0), .val (.int p1), .val (.int p2), .val (.int p3), .val (.int p4), .val (.int (3 : Int32)), .val (.int cx), .val (.int cy), .val (.int cz), .unset, .unset, .val (.int (3 : Int32)), .unset, .unset] [(.ref a227)])) t → Steps p.tables e below G0 t := fun t kt => K226 t (st227 _ kt)
        have Z227 : n0 ≤ h227.size := Nat.le_trans Z0 E227.1
        have CH227 := CH0.trans CR227
        have hl227 : ((([(97 : Int32), (112 : Int32), (112 : Int32), (108 : Int32), (105 : Int32), (99 : Int32), (97 : Int32), (116 : Int32), (105 : Int32), (111 : Int32), (110 : Int32), (47 : Int32), (112 : Int32), (114 : Int32), (111 : Int32), (98 : Int32), (108 : Int32), (101 : Int32), (109 : Int32), (43 : Int32), (106 : Int32), (115 : Int32), (111 : Int32), (110 : Int32)] : List Int32).map StrChars.lo8).map Value.int) = [(.int (97 : Int32)), (.int (112 : Int32)), (.int (112 : Int32)), (.int (108 : Int32)), (.int (105 : Int32)), (.int (99 : Int32)), (.int (97 : Int32)), (.int (116 : Int32)), (.int (105 : Int32)), (.int (111 : Int32)), (.int (110 : Int32)), (.int (47 : Int32)), (.int (112 : Int32)), (.int (114 : Int32)), (.int (111 : Int32)), (.int (98 : Int32)), (.int (108 : Int32)), (.int (101 : Int32)), (.int (109 : Int32)), (.int (43 : Int32)), (.int (106 : Int32)), (.int (115 : Int32)), (.int (111 : Int32)), (.int (110 : Int32))] := by decide +kernel
        have sl227 : own_Str Z h227 a227 [(97 : Int32), (112 : Int32), (112 : Int32), (108 : Int32), (105 : Int32), (99 : Int32), (97 : Int32), (116 : Int32), (105 : Int32), (111 : Int32), (110 : Int32), (47 : Int32), (112 : Int32), (114 : Int32), (111 : Int32), (98 : Int32), (108 : Int32), (101 : Int32), (109 : Int32), (43 : Int32), (106 : Int32), (115 : Int32), (111 : Int32), (110 : Int32)] := ⟨LE227, LC227, ⟨_, _, LV227, by rw [hl227]; exact LA227⟩, by decide, by decide⟩
        have K228 : ∀ t, Steps p.tables e below (T227.setTop (mkF m 510 #[.val (.int p0), .val (.int p1), .val (.int p2), .val (.int p3), .val (.int p4), .val (.int (3 : Int32)), .val (.int cx), .val (.int cy), .val (.int cz), .val (.ref a227), .val (.int (0 : Int32)), .val (.int (3 : Int32)), .unset, .unset] [])) t → Steps p.tables e below G0 t := by
          intro t kt
          refine K227 t ?_
          refine XS.astore X227.here hx rfl (hb hby at_475) rfl rfl (l' := #[.val (.int p0), .val (.int p1), .val (.int p2), .val (.int p3), .val (.int p4), .val (.int (3 : Int32)), .val (.int cx), .val (.int cy), .val (.int cz), .val (.ref a227), .unset, .val (.int (3 : Int32)), .unset, .unset]) rfl ?_
          show Steps p.tables e below (T227.setTop (mkF m 477 #[.val (.int p0), .val (.int p1), .val (.int p2), .val (.int p3), .val (.int p4), .val (.int (3 : Int32)), .val (.int cx), .val (.int cy), .val (.int cz), .val (.ref a227), .unset, .val (.int (3 : Int32)), .unset, .unset] [])) _
          refine XS.goto X227.here hx rfl (pc0 := 477) (pc' := 497) rfl (hb hby at_477) (by decide) (by decide) ?_
          show Steps p.tables e below (T227.setTop (mkF m 497 #[.val (.int p0), .val (.int p1), .val (.int p2), .val (.int p3), .val (.int p4), .val (.int (3 : Int32)), .val (.int cx), .val (.int cy), .val (.int cz), .val (.ref a227), .unset, .val (.int (3 : Int32)), .unset, .unset] [])) _
          refine XS.iconst X227.here hx rfl (hb hby at_497) ?_
          show Steps p.tables e below (T227.setTop (mkF m 498 #[.val (.int p0), .val (.int p1), .val (.int p2), .val (.int p3), .val (.int p4), .val (.int (3 : Int32)), .val (.int cx), .val (.int cy), .val (.int cz), .val (.ref a227), .unset, .val (.int (3 : Int32)), .unset, .unset] [(.int (0 : Int32))])) _
          refine XS.istore X227.here hx rfl (hb hby at_498) rfl (l' := #[.val (.int p0), .val (.int p1), .val (.int p2), .val (.int p3), .val (.int p4), .val (.int (3 : Int32)), .val (.int cx), .val (.int cy), .val (.int cz), .val (.ref a227), .val (.int (0 : Int32)), .val (.int (3 : Int32)), .unset, .unset]) rfl ?_
          show Steps p.tables e below (T227.setTop (mkF m 500 #[.val (.int p0), .val (.int p1), .val (.int p2), .val (.int p3), .val (.int p4), .val (.int (3 : Int32)), .val (.int cx), .val (.int cy), .val (.int cz), .val (.ref a227), .val (.int (0 : Int32)), .val (.int (3 : Int32)), .unset, .unset] [])) _
          refine XS.goto X227.here hx rfl (pc0 := 500) (pc' := 510) rfl (hb hby at_500) (by decide) (by decide) ?_
          show Steps p.tables e below (T227.setTop (mkF m 510 #[.val (.int p0), .val (.int p1), .val (.int p2), .val (.int p3), .val (.int p4), .val (.int (3 : Int32)), .val (.int cx), .val (.int cy), .val (.int cz), .val (.ref a227), .val (.int (0 : Int32)), .val (.int (3 : Int32)), .unset, .unset] [])) _
          exact kt
        have f229 := (HO.ext E227)
        have hq : own_q [(97 : Int32), (112 : Int32), (112 : Int32), (108 : Int32), (105 : Int32), (99 : Int32), (97 : Int32), (116 : Int32), (105 : Int32), (111 : Int32), (110 : Int32), (47 : Int32), (112 : Int32), (114 : Int32), (111 : Int32), (98 : Int32), (108 : Int32), (101 : Int32), (109 : Int32), (43 : Int32), (106 : Int32), (115 : Int32), (111 : Int32), (110 : Int32)] own_html = (0 : Int32) := by decide
        exact ⟨_, _, _, _, _, a227, [(97 : Int32), (112 : Int32), (112 : Int32), (108 : Int32), (105 : Int32), (99 : Int32), (97 : Int32), (116 : Int32), (105 : Int32), (111 : Int32), (110 : Int32), (47 : Int32), (112 : Int32), (114 : Int32), (111 : Int32), (98 : Int32), (108 : Int32), (101 : Int32), (109 : Int32), (43 : Int32), (106 : Int32), (115 : Int32), (111 : Int32), (110 : Int32)], .val (.int (3 : Int32)), .unset, .unset, X227.more (Nat.le_of_ble_eq_true rfl) (Nat.le_of_ble_eq_true rfl), e227, N0, Z227, hS227, hk227, hZ227, hown227, CH227, f229, sl227, (One.val rfl), fun t kt => K228 t (by rw [hq, hk5] at kt; exact kt)⟩
      ·
        rw [hj6] at K213
        have K230 : ∀ t, Steps p.tables e below (s₁.setTop (mkF m 486 #[.val (.int p0), .val (.int p1), .val (.int p2), .val (.int p3), .val (.int p4), .val (.int (3 : Int32)), .val (.int cx), .val (.int cy), .val (.int cz), .unset, .unset, .val (.int (4 : Int32)), .unset, .unset] [])) t → Steps p.tables e below G0 t := by
          intro t kt
          refine K213 t ?_
          refine XS.iload X0.here hx rfl (hb hby at_429) rfl ?_
          show Steps p.tables e below (s₁.setTop (mkF m 431 #[.val (.int p0), .val (.int p1), .val (.int p2), .val (.int p3), .val (.int p4), .val (.int (3 : Int32)), .val (.int cx), .val (.int cy), .val (.int cz), .unset, .unset, .val (.int (4 : Int32)), .unset, .unset] [(.int (4 : Int32))])) _
          refine XS.ifYes X0.here hx rfl (pc0 := 431) (pc' := 441) rfl (hb hby at_431) rfl ((if0 _ _).trans (feq (by decide)).2) (by decide) (by decide) ?_
          show Steps p.tables e below (s₁.setTop (mkF m 441 #[.val (.int p0), .val (.int p1), .val (.int p2), .val (.int p3), .val (.int p4), .val (.int (3 : Int32)), .val (.int cx), .val (.int cy), .val (.int cz), .unset, .unset, .val (.int (4 : Int32)), .unset, .unset] [])) _
          refine XS.iload X0.here hx rfl (hb hby at_441) rfl ?_
          show Steps p.tables e below (s₁.setTop (mkF m 443 #[.val (.int p0), .val (.int p1), .val (.int p2), .val (.int p3), .val (.int p4), .val (.int (3 : Int32)), .val (.int cx), .val (.int cy), .val (.int cz), .unset, .unset, .val (.int (4 : Int32)), .unset, .unset] [(.int (4 : Int32))])) _
          refine XS.iconst X0.here hx rfl (hb hby at_443) ?_
          show Steps p.tables e below (s₁.setTop (mkF m 444 #[.val (.int p0), .val (.int p1), .val (.int p2), .val (.int p3), .val (.int p4), .val (.int (3 : Int32)), .val (.int cx), .val (.int cy), .val (.int cz), .unset, .unset, .val (.int (4 : Int32)), .unset, .unset] [(.int (1 : Int32)), (.int (4 : Int32))])) _
          refine XS.icmpYes X0.here hx rfl (pc0 := 444) (pc' := 454) rfl (hb hby at_444) rfl (feq (by decide)).2 (by decide) (by decide) ?_
          show Steps p.tables e below (s₁.setTop (mkF m 454 #[.val (.int p0), .val (.int p1), .val (.int p2), .val (.int p3), .val (.int p4), .val (.int (3 : Int32)), .val (.int cx), .val (.int cy), .val (.int cz), .unset, .unset, .val (.int (4 : Int32)), .unset, .unset] [])) _
          refine XS.iload X0.here hx rfl (hb hby at_454) rfl ?_
          show Steps p.tables e below (s₁.setTop (mkF m 456 #[.val (.int p0), .val (.int p1), .val (.int p2), .val (.int p3), .val (.int p4), .val (.int (3 : Int32)), .val (.int cx), .val (.int cy), .val (.int cz), .unset, .unset, .val (.int (4 : Int32)), .unset, .unset] [(.int (4 : Int32))])) _
          refine XS.iconst X0.here hx rfl (hb hby at_456) ?_
          show Steps p.tables e below (s₁.setTop (mkF m 457 #[.val (.int p0), .val (.int p1), .val (.int p2), .val (.int p3), .val (.int p4), .val (.int (3 : Int32)), .val (.int cx), .val (.int cy), .val (.int cz), .unset, .unset, .val (.int (4 : Int32)), .unset, .unset] [(.int (2 : Int32)), (.int (4 : Int32))])) _
          refine XS.icmpYes X0.here hx rfl (pc0 := 457) (pc' := 467) rfl (hb hby at_457) rfl (feq (by decide)).2 (by decide) (by decide) ?_
          show Steps p.tables e below (s₁.setTop (mkF m 467 #[.val (.int p0), .val (.int p1), .val (.int p2), .val (.int p3), .val (.int p4), .val (.int (3 : Int32)), .val (.int cx), .val (.int cy), .val (.int cz), .unset, .unset, .val (.int (4 : Int32)), .unset, .unset] [])) _
          refine XS.iload X0.here hx rfl (hb hby at_467) rfl ?_
          show Steps p.tables e below (s₁.setTop (mkF m 469 #[.val (.int p0), .val (.int p1), .val (.int p2), .val (.int p3), .val (.int p4), .val (.int (3 : Int32)), .val (.int cx), .val (.int cy), .val (.int cz), .unset, .unset, .val (.int (4 : Int32)), .unset, .unset] [(.int (4 : Int32))])) _
          refine XS.iconst X0.here hx rfl (hb hby at_469) ?_
          show Steps p.tables e below (s₁.setTop (mkF m 470 #[.val (.int p0), .val (.int p1), .val (.int p2), .val (.int p3), .val (.int p4), .val (.int (3 : Int32)), .val (.int cx), .val (.int cy), .val (.int cz), .unset, .unset, .val (.int (4 : Int32)), .unset, .unset] [(.int (3 : Int32)), (.int (4 : Int32))])) _
          refine XS.icmpYes X0.here hx rfl (pc0 := 470) (pc' := 480) rfl (hb hby at_470) rfl (feq (by decide)).2 (by decide) (by decide) ?_
          show Steps p.tables e below (s₁.setTop (mkF m 480 #[.val (.int p0), .val (.int p1), .val (.int p2), .val (.int p3), .val (.int p4), .val (.int (3 : Int32)), .val (.int cx), .val (.int cy), .val (.int cz), .unset, .unset, .val (.int (4 : Int32)), .unset, .unset] [])) _
          refine XS.iload X0.here hx rfl (hb hby at_480) rfl ?_
          show Steps p.tables e below (s₁.setTop (mkF m 482 #[.val (.int p0), .val (.int p1), .val (.int p2), .val (.int p3), .val (.int p4), .val (.int (3 : Int32)), .val (.int cx), .val (.int cy), .val (.int cz), .unset, .unset, .val (.int (4 : Int32)), .unset, .unset] [(.int (4 : Int32))])) _
          refine XS.iconst X0.here hx rfl (hb hby at_482) ?_
          show Steps p.tables e below (s₁.setTop (mkF m 483 #[.val (.int p0), .val (.int p1), .val (.int p2), .val (.int p3), .val (.int p4), .val (.int (3 : Int32)), .val (.int cx), .val (.int cy), .val (.int cz), .unset, .unset, .val (.int (4 : Int32)), .unset, .unset] [(.int (4 : Int32)), (.int (4 : Int32))])) _
          refine XS.icmpNo X0.here hx rfl (hb hby at_483) rfl (teq (by decide)).2 ?_
          show Steps p.tables e below (s₁.setTop (mkF m 486 #[.val (.int p0), .val (.int p1), .val (.int p2), .val (.int p3), .val (.int p4), .val (.int (3 : Int32)), .val (.int cx), .val (.int cy), .val (.int cz), .unset, .unset, .val (.int (4 : Int32)), .unset, .unset] [])) _
          exact kt
        obtain ⟨a231, T231, h231, kk231, bb231, kc231, X231, e231, E231, hS231, hk231, hZ231, hown231, LE231, LC231, LV231, LA231, la231, lb231, CR231, -, -, st231⟩ := ldcCH X0 hx hZ hown (hw _ (List.mem_of_getElem? (i := 22) rfl)) (own_wS hw) e0 hS0 hk0 hEL (by decide +kernel) CH0.1 (vs := [(.int (116 : Int32)), (.int (101 : Int32)), (.int (120 : Int32)), (.int (116 : Int32)), (.int (47 : Int32)), (.int (116 : Int32)), (.int (117 : Int32)), (.int (114 : Int32)), (.int (116 : Int32)), (.int (108 : Int32)), (.int (101 : Int32))]) (z := (11 : Int32)) ⟨by decide, by decide⟩ (by decide) (by decide) (g := (mkF m 486 #[.val (.int p0), .val (.int p1), .val (.int p2), .val (.int p3), .val (.int p4), .val (.int (3 : Int32)), .val (.int cx), .val (.int cy), .val (.int cz), .unset, .unset, .val (.int (4 : Int32)), .unset, .unset] [])) rfl (hb hby at_486) (n := 44) (by decide) (by decide) (by decide) (by decide)
        have K231 : ∀ t, Steps p.tables e below (T231.setTop (mkF m 488 #[.val (.int p0), .val (.int p1), .val (.int p2), .val (.int p3), .val (.int p4), .val (.int (3 : Int32)), .val (.int cx), .val (.int cy), .val (.int cz), .unset, .unset, .val (.int (4 : Int32)), .unset, .unset] [(.ref a231)])) t → Steps p.tables e below G0 t := fun t kt => K230 t (st231 _ kt)
        have Z231 : n0 ≤ h231.size := Nat.le_trans Z0 E231.1
        have CH231 := CH0.trans CR231
        have hl231 : ((([(116 : Int32), (101 : Int32), (120 : Int32), (116 : Int32), (47 : Int32), (116 : Int32), (117 : Int32), (114 : Int32), (116 : Int32), (108 : Int32), (101 : Int32)] : List Int32).map StrChars.lo8).map Value.int) = [(.int (116 : Int32)), (.int (101 : Int32)), (.int (120 : Int32)), (.int (116 : Int32)), (.int (47 : Int32)), (.int (116 : Int32)), (.int (117 : Int32)), (.int (114 : Int32)), (.int (116 : Int32)), (.int (108 : Int32)), (.int (101 : Int32))] := by decide +kernel
        have sl231 : own_Str Z h231 a231 [(116 : Int32), (101 : Int32), (120 : Int32), (116 : Int32), (47 : Int32), (116 : Int32), (117 : Int32), (114 : Int32), (116 : Int32), (108 : Int32), (101 : Int32)] := ⟨LE231, LC231, ⟨_, _, LV231, by rw [hl231]; exact LA231⟩, by decide, by decide⟩
        have K232 : ∀ t, Steps p.tables e below (T231.setTop (mkF m 510 #[.val (.int p0), .val (.int p1), .val (.int p2), .val (.int p3), .val (.int p4), .val (.int (3 : Int32)), .val (.int cx), .val (.int cy), .val (.int cz), .val (.ref a231), .val (.int (0 : Int32)), .val (.int (4 : Int32)), .unset, .unset] [])) t → Steps p.tables e below G0 t := by
          intro t kt
          refine K231 t ?_
          refine XS.astore X231.here hx rfl (hb hby at_488) rfl rfl (l' := #[.val (.int p0), .val (.int p1), .val (.int p2), .val (.int p3), .val (.int p4), .val (.int (3 : Int32)), .val (.int cx), .val (.int cy), .val (.int cz), .val (.ref a231), .unset, .val (.int (4 : Int32)), .unset, .unset]) rfl ?_
          show Steps p.tables e below (T231.setTop (mkF m 490 #[.val (.int p0), .val (.int p1), .val (.int p2), .val (.int p3), .val (.int p4), .val (.int (3 : Int32)), .val (.int cx), .val (.int cy), .val (.int cz), .val (.ref a231), .unset, .val (.int (4 : Int32)), .unset, .unset] [])) _
          refine XS.goto X231.here hx rfl (pc0 := 490) (pc' := 497) rfl (hb hby at_490) (by decide) (by decide) ?_
          show Steps p.tables e below (T231.setTop (mkF m 497 #[.val (.int p0), .val (.int p1), .val (.int p2), .val (.int p3), .val (.int p4), .val (.int (3 : Int32)), .val (.int cx), .val (.int cy), .val (.int cz), .val (.ref a231), .unset, .val (.int (4 : Int32)), .unset, .unset] [])) _
          refine XS.iconst X231.here hx rfl (hb hby at_497) ?_
          show Steps p.tables e below (T231.setTop (mkF m 498 #[.val (.int p0), .val (.int p1), .val (.int p2), .val (.int p3), .val (.int p4), .val (.int (3 : Int32)), .val (.int cx), .val (.int cy), .val (.int cz), .val (.ref a231), .unset, .val (.int (4 : Int32)), .unset, .unset] [(.int (0 : Int32))])) _
          refine XS.istore X231.here hx rfl (hb hby at_498) rfl (l' := #[.val (.int p0), .val (.int p1), .val (.int p2), .val (.int p3), .val (.int p4), .val (.int (3 : Int32)), .val (.int cx), .val (.int cy), .val (.int cz), .val (.ref a231), .val (.int (0 : Int32)), .val (.int (4 : Int32)), .unset, .unset]) rfl ?_
          show Steps p.tables e below (T231.setTop (mkF m 500 #[.val (.int p0), .val (.int p1), .val (.int p2), .val (.int p3), .val (.int p4), .val (.int (3 : Int32)), .val (.int cx), .val (.int cy), .val (.int cz), .val (.ref a231), .val (.int (0 : Int32)), .val (.int (4 : Int32)), .unset, .unset] [])) _
          refine XS.goto X231.here hx rfl (pc0 := 500) (pc' := 510) rfl (hb hby at_500) (by decide) (by decide) ?_
          show Steps p.tables e below (T231.setTop (mkF m 510 #[.val (.int p0), .val (.int p1), .val (.int p2), .val (.int p3), .val (.int p4), .val (.int (3 : Int32)), .val (.int cx), .val (.int cy), .val (.int cz), .val (.ref a231), .val (.int (0 : Int32)), .val (.int (4 : Int32)), .unset, .unset] [])) _
          exact kt
        have f233 := (HO.ext E231)
        have hq : own_q [(116 : Int32), (101 : Int32), (120 : Int32), (116 : Int32), (47 : Int32), (116 : Int32), (117 : Int32), (114 : Int32), (116 : Int32), (108 : Int32), (101 : Int32)] own_html = (0 : Int32) := by decide
        exact ⟨_, _, _, _, _, a231, [(116 : Int32), (101 : Int32), (120 : Int32), (116 : Int32), (47 : Int32), (116 : Int32), (117 : Int32), (114 : Int32), (116 : Int32), (108 : Int32), (101 : Int32)], .val (.int (4 : Int32)), .unset, .unset, X231.more (Nat.le_of_ble_eq_true rfl) (Nat.le_of_ble_eq_true rfl), e231, N0, Z231, hS231, hk231, hZ231, hown231, CH231, f233, sl231, (One.val rfl), fun t kt => K232 t (by rw [hq, hk5] at kt; exact kt)⟩
      ·
        rw [hj6] at K213
        have K234 : ∀ t, Steps p.tables e below (s₁.setTop (mkF m 493 #[.val (.int p0), .val (.int p1), .val (.int p2), .val (.int p3), .val (.int p4), .val (.int (3 : Int32)), .val (.int cx), .val (.int cy), .val (.int cz), .unset, .unset, .val (.int (5 : Int32)), .unset, .unset] [])) t → Steps p.tables e below G0 t := by
          intro t kt
          refine K213 t ?_
          refine XS.iload X0.here hx rfl (hb hby at_429) rfl ?_
          show Steps p.tables e below (s₁.setTop (mkF m 431 #[.val (.int p0), .val (.int p1), .val (.int p2), .val (.int p3), .val (.int p4), .val (.int (3 : Int32)), .val (.int cx), .val (.int cy), .val (.int cz), .unset, .unset, .val (.int (5 : Int32)), .unset, .unset] [(.int (5 : Int32))])) _
          refine XS.ifYes X0.here hx rfl (pc0 := 431) (pc' := 441) rfl (hb hby at_431) rfl ((if0 _ _).trans (feq (by decide)).2) (by decide) (by decide) ?_
          show Steps p.tables e below (s₁.setTop (mkF m 441 #[.val (.int p0), .val (.int p1), .val (.int p2), .val (.int p3), .val (.int p4), .val (.int (3 : Int32)), .val (.int cx), .val (.int cy), .val (.int cz), .unset, .unset, .val (.int (5 : Int32)), .unset, .unset] [])) _
          refine XS.iload X0.here hx rfl (hb hby at_441) rfl ?_
          show Steps p.tables e below (s₁.setTop (mkF m 443 #[.val (.int p0), .val (.int p1), .val (.int p2), .val (.int p3), .val (.int p4), .val (.int (3 : Int32)), .val (.int cx), .val (.int cy), .val (.int cz), .unset, .unset, .val (.int (5 : Int32)), .unset, .unset] [(.int (5 : Int32))])) _
          refine XS.iconst X0.here hx rfl (hb hby at_443) ?_
          show Steps p.tables e below (s₁.setTop (mkF m 444 #[.val (.int p0), .val (.int p1), .val (.int p2), .val (.int p3), .val (.int p4), .val (.int (3 : Int32)), .val (.int cx), .val (.int cy), .val (.int cz), .unset, .unset, .val (.int (5 : Int32)), .unset, .unset] [(.int (1 : Int32)), (.int (5 : Int32))])) _
          refine XS.icmpYes X0.here hx rfl (pc0 := 444) (pc' := 454) rfl (hb hby at_444) rfl (feq (by decide)).2 (by decide) (by decide) ?_
          show Steps p.tables e below (s₁.setTop (mkF m 454 #[.val (.int p0), .val (.int p1), .val (.int p2), .val (.int p3), .val (.int p4), .val (.int (3 : Int32)), .val (.int cx), .val (.int cy), .val (.int cz), .unset, .unset, .val (.int (5 : Int32)), .unset, .unset] [])) _
          refine XS.iload X0.here hx rfl (hb hby at_454) rfl ?_
          show Steps p.tables e below (s₁.setTop (mkF m 456 #[.val (.int p0), .val (.int p1), .val (.int p2), .val (.int p3), .val (.int p4), .val (.int (3 : Int32)), .val (.int cx), .val (.int cy), .val (.int cz), .unset, .unset, .val (.int (5 : Int32)), .unset, .unset] [(.int (5 : Int32))])) _
          refine XS.iconst X0.here hx rfl (hb hby at_456) ?_
          show Steps p.tables e below (s₁.setTop (mkF m 457 #[.val (.int p0), .val (.int p1), .val (.int p2), .val (.int p3), .val (.int p4), .val (.int (3 : Int32)), .val (.int cx), .val (.int cy), .val (.int cz), .unset, .unset, .val (.int (5 : Int32)), .unset, .unset] [(.int (2 : Int32)), (.int (5 : Int32))])) _
          refine XS.icmpYes X0.here hx rfl (pc0 := 457) (pc' := 467) rfl (hb hby at_457) rfl (feq (by decide)).2 (by decide) (by decide) ?_
          show Steps p.tables e below (s₁.setTop (mkF m 467 #[.val (.int p0), .val (.int p1), .val (.int p2), .val (.int p3), .val (.int p4), .val (.int (3 : Int32)), .val (.int cx), .val (.int cy), .val (.int cz), .unset, .unset, .val (.int (5 : Int32)), .unset, .unset] [])) _
          refine XS.iload X0.here hx rfl (hb hby at_467) rfl ?_
          show Steps p.tables e below (s₁.setTop (mkF m 469 #[.val (.int p0), .val (.int p1), .val (.int p2), .val (.int p3), .val (.int p4), .val (.int (3 : Int32)), .val (.int cx), .val (.int cy), .val (.int cz), .unset, .unset, .val (.int (5 : Int32)), .unset, .unset] [(.int (5 : Int32))])) _
          refine XS.iconst X0.here hx rfl (hb hby at_469) ?_
          show Steps p.tables e below (s₁.setTop (mkF m 470 #[.val (.int p0), .val (.int p1), .val (.int p2), .val (.int p3), .val (.int p4), .val (.int (3 : Int32)), .val (.int cx), .val (.int cy), .val (.int cz), .unset, .unset, .val (.int (5 : Int32)), .unset, .unset] [(.int (3 : Int32)), (.int (5 : Int32))])) _
          refine XS.icmpYes X0.here hx rfl (pc0 := 470) (pc' := 480) rfl (hb hby at_470) rfl (feq (by decide)).2 (by decide) (by decide) ?_
          show Steps p.tables e below (s₁.setTop (mkF m 480 #[.val (.int p0), .val (.int p1), .val (.int p2), .val (.int p3), .val (.int p4), .val (.int (3 : Int32)), .val (.int cx), .val (.int cy), .val (.int cz), .unset, .unset, .val (.int (5 : Int32)), .unset, .unset] [])) _
          refine XS.iload X0.here hx rfl (hb hby at_480) rfl ?_
          show Steps p.tables e below (s₁.setTop (mkF m 482 #[.val (.int p0), .val (.int p1), .val (.int p2), .val (.int p3), .val (.int p4), .val (.int (3 : Int32)), .val (.int cx), .val (.int cy), .val (.int cz), .unset, .unset, .val (.int (5 : Int32)), .unset, .unset] [(.int (5 : Int32))])) _
          refine XS.iconst X0.here hx rfl (hb hby at_482) ?_
          show Steps p.tables e below (s₁.setTop (mkF m 483 #[.val (.int p0), .val (.int p1), .val (.int p2), .val (.int p3), .val (.int p4), .val (.int (3 : Int32)), .val (.int cx), .val (.int cy), .val (.int cz), .unset, .unset, .val (.int (5 : Int32)), .unset, .unset] [(.int (4 : Int32)), (.int (5 : Int32))])) _
          refine XS.icmpYes X0.here hx rfl (pc0 := 483) (pc' := 493) rfl (hb hby at_483) rfl (feq (by decide)).2 (by decide) (by decide) ?_
          show Steps p.tables e below (s₁.setTop (mkF m 493 #[.val (.int p0), .val (.int p1), .val (.int p2), .val (.int p3), .val (.int p4), .val (.int (3 : Int32)), .val (.int cx), .val (.int cy), .val (.int cz), .unset, .unset, .val (.int (5 : Int32)), .unset, .unset] [])) _
          exact kt
        obtain ⟨a235, T235, h235, kk235, bb235, kc235, X235, e235, E235, hS235, hk235, hZ235, hown235, LE235, LC235, LV235, LA235, la235, lb235, CR235, -, -, st235⟩ := ldcCH X0 hx hZ hown (hw _ (List.mem_of_getElem? (i := 56) rfl)) (own_wS hw) e0 hS0 hk0 hEL (by decide +kernel) CH0.1 (vs := [(.int (97 : Int32)), (.int (112 : Int32)), (.int (112 : Int32)), (.int (108 : Int32)), (.int (105 : Int32)), (.int (99 : Int32)), (.int (97 : Int32)), (.int (116 : Int32)), (.int (105 : Int32)), (.int (111 : Int32)), (.int (110 : Int32)), (.int (47 : Int32)), (.int (115 : Int32)), (.int (99 : Int32)), (.int (104 : Int32)), (.int (101 : Int32)), (.int (109 : Int32)), (.int (97 : Int32)), (.int (43 : Int32)), (.int (106 : Int32)), (.int (115 : Int32)), (.int (111 : Int32)), (.int (110 : Int32))]) (z := (23 : Int32)) ⟨by decide, by decide⟩ (by decide) (by decide) (g := (mkF m 493 #[.val (.int p0), .val (.int p1), .val (.int p2), .val (.int p3), .val (.int p4), .val (.int (3 : Int32)), .val (.int cx), .val (.int cy), .val (.int cz), .unset, .unset, .val (.int (5 : Int32)), .unset, .unset] [])) rfl (hb hby at_493) (n := 92) (by decide) (by decide) (by decide) (by decide)
        have K235 : ∀ t, Steps p.tables e below (T235.setTop (mkF m 495 #[.val (.int p0), .val (.int p1), .val (.int p2), .val (.int p3), .val (.int p4), .val (.int (3 : Int32)), .val (.int cx), .val (.int cy), .val (.int cz), .unset, .unset, .val (.int (5 : Int32)), .unset, .unset] [(.ref a235)])) t → Steps p.tables e below G0 t := fun t kt => K234 t (st235 _ kt)
        have Z235 : n0 ≤ h235.size := Nat.le_trans Z0 E235.1
        have CH235 := CH0.trans CR235
        have hl235 : ((([(97 : Int32), (112 : Int32), (112 : Int32), (108 : Int32), (105 : Int32), (99 : Int32), (97 : Int32), (116 : Int32), (105 : Int32), (111 : Int32), (110 : Int32), (47 : Int32), (115 : Int32), (99 : Int32), (104 : Int32), (101 : Int32), (109 : Int32), (97 : Int32), (43 : Int32), (106 : Int32), (115 : Int32), (111 : Int32), (110 : Int32)] : List Int32).map StrChars.lo8).map Value.int) = [(.int (97 : Int32)), (.int (112 : Int32)), (.int (112 : Int32)), (.int (108 : Int32)), (.int (105 : Int32)), (.int (99 : Int32)), (.int (97 : Int32)), (.int (116 : Int32)), (.int (105 : Int32)), (.int (111 : Int32)), (.int (110 : Int32)), (.int (47 : Int32)), (.int (115 : Int32)), (.int (99 : Int32)), (.int (104 : Int32)), (.int (101 : Int32)), (.int (109 : Int32)), (.int (97 : Int32)), (.int (43 : Int32)), (.int (106 : Int32)), (.int (115 : Int32)), (.int (111 : Int32)), (.int (110 : Int32))] := by decide +kernel
        have sl235 : own_Str Z h235 a235 [(97 : Int32), (112 : Int32), (112 : Int32), (108 : Int32), (105 : Int32), (99 : Int32), (97 : Int32), (116 : Int32), (105 : Int32), (111 : Int32), (110 : Int32), (47 : Int32), (115 : Int32), (99 : Int32), (104 : Int32), (101 : Int32), (109 : Int32), (97 : Int32), (43 : Int32), (106 : Int32), (115 : Int32), (111 : Int32), (110 : Int32)] := ⟨LE235, LC235, ⟨_, _, LV235, by rw [hl235]; exact LA235⟩, by decide, by decide⟩
        have K236 : ∀ t, Steps p.tables e below (T235.setTop (mkF m 510 #[.val (.int p0), .val (.int p1), .val (.int p2), .val (.int p3), .val (.int p4), .val (.int (3 : Int32)), .val (.int cx), .val (.int cy), .val (.int cz), .val (.ref a235), .val (.int (0 : Int32)), .val (.int (5 : Int32)), .unset, .unset] [])) t → Steps p.tables e below G0 t := by
          intro t kt
          refine K235 t ?_
          refine XS.astore X235.here hx rfl (hb hby at_495) rfl rfl (l' := #[.val (.int p0), .val (.int p1), .val (.int p2), .val (.int p3), .val (.int p4), .val (.int (3 : Int32)), .val (.int cx), .val (.int cy), .val (.int cz), .val (.ref a235), .unset, .val (.int (5 : Int32)), .unset, .unset]) rfl ?_
          show Steps p.tables e below (T235.setTop (mkF m 497 #[.val (.int p0), .val (.int p1), .val (.int p2), .val (.int p3), .val (.int p4), .val (.int (3 : Int32)), .val (.int cx), .val (.int cy), .val (.int cz), .val (.ref a235), .unset, .val (.int (5 : Int32)), .unset, .unset] [])) _
          refine XS.iconst X235.here hx rfl (hb hby at_497) ?_
          show Steps p.tables e below (T235.setTop (mkF m 498 #[.val (.int p0), .val (.int p1), .val (.int p2), .val (.int p3), .val (.int p4), .val (.int (3 : Int32)), .val (.int cx), .val (.int cy), .val (.int cz), .val (.ref a235), .unset, .val (.int (5 : Int32)), .unset, .unset] [(.int (0 : Int32))])) _
          refine XS.istore X235.here hx rfl (hb hby at_498) rfl (l' := #[.val (.int p0), .val (.int p1), .val (.int p2), .val (.int p3), .val (.int p4), .val (.int (3 : Int32)), .val (.int cx), .val (.int cy), .val (.int cz), .val (.ref a235), .val (.int (0 : Int32)), .val (.int (5 : Int32)), .unset, .unset]) rfl ?_
          show Steps p.tables e below (T235.setTop (mkF m 500 #[.val (.int p0), .val (.int p1), .val (.int p2), .val (.int p3), .val (.int p4), .val (.int (3 : Int32)), .val (.int cx), .val (.int cy), .val (.int cz), .val (.ref a235), .val (.int (0 : Int32)), .val (.int (5 : Int32)), .unset, .unset] [])) _
          refine XS.goto X235.here hx rfl (pc0 := 500) (pc' := 510) rfl (hb hby at_500) (by decide) (by decide) ?_
          show Steps p.tables e below (T235.setTop (mkF m 510 #[.val (.int p0), .val (.int p1), .val (.int p2), .val (.int p3), .val (.int p4), .val (.int (3 : Int32)), .val (.int cx), .val (.int cy), .val (.int cz), .val (.ref a235), .val (.int (0 : Int32)), .val (.int (5 : Int32)), .unset, .unset] [])) _
          exact kt
        have f237 := (HO.ext E235)
        have hq : own_q [(97 : Int32), (112 : Int32), (112 : Int32), (108 : Int32), (105 : Int32), (99 : Int32), (97 : Int32), (116 : Int32), (105 : Int32), (111 : Int32), (110 : Int32), (47 : Int32), (115 : Int32), (99 : Int32), (104 : Int32), (101 : Int32), (109 : Int32), (97 : Int32), (43 : Int32), (106 : Int32), (115 : Int32), (111 : Int32), (110 : Int32)] own_html = (0 : Int32) := by decide
        exact ⟨_, _, _, _, _, a235, [(97 : Int32), (112 : Int32), (112 : Int32), (108 : Int32), (105 : Int32), (99 : Int32), (97 : Int32), (116 : Int32), (105 : Int32), (111 : Int32), (110 : Int32), (47 : Int32), (115 : Int32), (99 : Int32), (104 : Int32), (101 : Int32), (109 : Int32), (97 : Int32), (43 : Int32), (106 : Int32), (115 : Int32), (111 : Int32), (110 : Int32)], .val (.int (5 : Int32)), .unset, .unset, X235.more (Nat.le_of_ble_eq_true rfl) (Nat.le_of_ble_eq_true rfl), e235, N0, Z235, hS235, hk235, hZ235, hown235, CH235, f237, sl235, (One.val rfl), fun t kt => K236 t (by rw [hq, hk5] at kt; exact kt)⟩
    ·
      rw [hk5] at K4
      have K238 : ∀ t, Steps p.tables e below (s₁.setTop (mkF m 503 #[.val (.int p0), .val (.int p1), .val (.int p2), .val (.int p3), .val (.int p4), .val (.int (4 : Int32)), .val (.int cx), .val (.int cy), .val (.int cz), .unset, .unset, .unset, .unset, .unset] [])) t → Steps p.tables e below G0 t := by
        intro t kt
        refine K4 t ?_
        refine XS.iload X0.here hx rfl (hb hby at_33) rfl ?_
        show Steps p.tables e below (s₁.setTop (mkF m 35 #[.val (.int p0), .val (.int p1), .val (.int p2), .val (.int p3), .val (.int p4), .val (.int (4 : Int32)), .val (.int cx), .val (.int cy), .val (.int cz), .unset, .unset, .unset, .unset, .unset] [(.int (4 : Int32))])) _
        refine XS.ifYes X0.here hx rfl (pc0 := 35) (pc' := 48) rfl (hb hby at_35) rfl ((if0 _ _).trans (feq (by decide)).2) (by decide) (by decide) ?_
        show Steps p.tables e below (s₁.setTop (mkF m 48 #[.val (.int p0), .val (.int p1), .val (.int p2), .val (.int p3), .val (.int p4), .val (.int (4 : Int32)), .val (.int cx), .val (.int cy), .val (.int cz), .unset, .unset, .unset, .unset, .unset] [])) _
        refine XS.iload X0.here hx rfl (hb hby at_48) rfl ?_
        show Steps p.tables e below (s₁.setTop (mkF m 50 #[.val (.int p0), .val (.int p1), .val (.int p2), .val (.int p3), .val (.int p4), .val (.int (4 : Int32)), .val (.int cx), .val (.int cy), .val (.int cz), .unset, .unset, .unset, .unset, .unset] [(.int (4 : Int32))])) _
        refine XS.iconst X0.here hx rfl (hb hby at_50) ?_
        show Steps p.tables e below (s₁.setTop (mkF m 51 #[.val (.int p0), .val (.int p1), .val (.int p2), .val (.int p3), .val (.int p4), .val (.int (4 : Int32)), .val (.int cx), .val (.int cy), .val (.int cz), .unset, .unset, .unset, .unset, .unset] [(.int (1 : Int32)), (.int (4 : Int32))])) _
        refine XS.icmpYes X0.here hx rfl (pc0 := 51) (pc' := 293) rfl (hb hby at_51) rfl (feq (by decide)).2 (by decide) (by decide) ?_
        show Steps p.tables e below (s₁.setTop (mkF m 293 #[.val (.int p0), .val (.int p1), .val (.int p2), .val (.int p3), .val (.int p4), .val (.int (4 : Int32)), .val (.int cx), .val (.int cy), .val (.int cz), .unset, .unset, .unset, .unset, .unset] [])) _
        refine XS.iload X0.here hx rfl (hb hby at_293) rfl ?_
        show Steps p.tables e below (s₁.setTop (mkF m 295 #[.val (.int p0), .val (.int p1), .val (.int p2), .val (.int p3), .val (.int p4), .val (.int (4 : Int32)), .val (.int cx), .val (.int cy), .val (.int cz), .unset, .unset, .unset, .unset, .unset] [(.int (4 : Int32))])) _
        refine XS.iconst X0.here hx rfl (hb hby at_295) ?_
        show Steps p.tables e below (s₁.setTop (mkF m 296 #[.val (.int p0), .val (.int p1), .val (.int p2), .val (.int p3), .val (.int p4), .val (.int (4 : Int32)), .val (.int cx), .val (.int cy), .val (.int cz), .unset, .unset, .unset, .unset, .unset] [(.int (2 : Int32)), (.int (4 : Int32))])) _
        refine XS.icmpYes X0.here hx rfl (pc0 := 296) (pc' := 414) rfl (hb hby at_296) rfl (feq (by decide)).2 (by decide) (by decide) ?_
        show Steps p.tables e below (s₁.setTop (mkF m 414 #[.val (.int p0), .val (.int p1), .val (.int p2), .val (.int p3), .val (.int p4), .val (.int (4 : Int32)), .val (.int cx), .val (.int cy), .val (.int cz), .unset, .unset, .unset, .unset, .unset] [])) _
        refine XS.iload X0.here hx rfl (hb hby at_414) rfl ?_
        show Steps p.tables e below (s₁.setTop (mkF m 416 #[.val (.int p0), .val (.int p1), .val (.int p2), .val (.int p3), .val (.int p4), .val (.int (4 : Int32)), .val (.int cx), .val (.int cy), .val (.int cz), .unset, .unset, .unset, .unset, .unset] [(.int (4 : Int32))])) _
        refine XS.iconst X0.here hx rfl (hb hby at_416) ?_
        show Steps p.tables e below (s₁.setTop (mkF m 417 #[.val (.int p0), .val (.int p1), .val (.int p2), .val (.int p3), .val (.int p4), .val (.int (4 : Int32)), .val (.int cx), .val (.int cy), .val (.int cz), .unset, .unset, .unset, .unset, .unset] [(.int (3 : Int32)), (.int (4 : Int32))])) _
        refine XS.icmpYes X0.here hx rfl (pc0 := 417) (pc' := 503) rfl (hb hby at_417) rfl (feq (by decide)).2 (by decide) (by decide) ?_
        show Steps p.tables e below (s₁.setTop (mkF m 503 #[.val (.int p0), .val (.int p1), .val (.int p2), .val (.int p3), .val (.int p4), .val (.int (4 : Int32)), .val (.int cx), .val (.int cy), .val (.int cz), .unset, .unset, .unset, .unset, .unset] [])) _
        exact kt
      obtain ⟨a239, T239, h239, kk239, bb239, kc239, X239, e239, E239, hS239, hk239, hZ239, hown239, LE239, LC239, LV239, LA239, la239, lb239, CR239, -, -, st239⟩ := ldcCH X0 hx hZ hown (hw _ (List.mem_of_getElem? (i := 20) rfl)) (own_wS hw) e0 hS0 hk0 hEL (by decide +kernel) CH0.1 (vs := [(.int (116 : Int32)), (.int (101 : Int32)), (.int (120 : Int32)), (.int (116 : Int32)), (.int (47 : Int32)), (.int (104 : Int32)), (.int (116 : Int32)), (.int (109 : Int32)), (.int (108 : Int32)), (.int (59 : Int32)), (.int (99 : Int32)), (.int (104 : Int32)), (.int (97 : Int32)), (.int (114 : Int32)), (.int (115 : Int32)), (.int (101 : Int32)), (.int (116 : Int32)), (.int (61 : Int32)), (.int (117 : Int32)), (.int (116 : Int32)), (.int (102 : Int32)), (.int (45 : Int32)), (.int (56 : Int32))]) (z := (23 : Int32)) ⟨by decide, by decide⟩ (by decide) (by decide) (g := (mkF m 503 #[.val (.int p0), .val (.int p1), .val (.int p2), .val (.int p3), .val (.int p4), .val (.int (4 : Int32)), .val (.int cx), .val (.int cy), .val (.int cz), .unset, .unset, .unset, .unset, .unset] [])) rfl (hb hby at_503) (n := 92) (by decide) (by decide) (by decide) (by decide)
      have K239 : ∀ t, Steps p.tables e below (T239.setTop (mkF m 505 #[.val (.int p0), .val (.int p1), .val (.int p2), .val (.int p3), .val (.int p4), .val (.int (4 : Int32)), .val (.int cx), .val (.int cy), .val (.int cz), .unset, .unset, .unset, .unset, .unset] [(.ref a239)])) t → Steps p.tables e below G0 t := fun t kt => K238 t (st239 _ kt)
      have Z239 : n0 ≤ h239.size := Nat.le_trans Z0 E239.1
      have CH239 := CH0.trans CR239
      have hl239 : ((([(116 : Int32), (101 : Int32), (120 : Int32), (116 : Int32), (47 : Int32), (104 : Int32), (116 : Int32), (109 : Int32), (108 : Int32), (59 : Int32), (99 : Int32), (104 : Int32), (97 : Int32), (114 : Int32), (115 : Int32), (101 : Int32), (116 : Int32), (61 : Int32), (117 : Int32), (116 : Int32), (102 : Int32), (45 : Int32), (56 : Int32)] : List Int32).map StrChars.lo8).map Value.int) = [(.int (116 : Int32)), (.int (101 : Int32)), (.int (120 : Int32)), (.int (116 : Int32)), (.int (47 : Int32)), (.int (104 : Int32)), (.int (116 : Int32)), (.int (109 : Int32)), (.int (108 : Int32)), (.int (59 : Int32)), (.int (99 : Int32)), (.int (104 : Int32)), (.int (97 : Int32)), (.int (114 : Int32)), (.int (115 : Int32)), (.int (101 : Int32)), (.int (116 : Int32)), (.int (61 : Int32)), (.int (117 : Int32)), (.int (116 : Int32)), (.int (102 : Int32)), (.int (45 : Int32)), (.int (56 : Int32))] := by decide +kernel
      have sl239 : own_Str Z h239 a239 [(116 : Int32), (101 : Int32), (120 : Int32), (116 : Int32), (47 : Int32), (104 : Int32), (116 : Int32), (109 : Int32), (108 : Int32), (59 : Int32), (99 : Int32), (104 : Int32), (97 : Int32), (114 : Int32), (115 : Int32), (101 : Int32), (116 : Int32), (61 : Int32), (117 : Int32), (116 : Int32), (102 : Int32), (45 : Int32), (56 : Int32)] := ⟨LE239, LC239, ⟨_, _, LV239, by rw [hl239]; exact LA239⟩, by decide, by decide⟩
      have K240 : ∀ t, Steps p.tables e below (T239.setTop (mkF m 510 #[.val (.int p0), .val (.int p1), .val (.int p2), .val (.int p3), .val (.int p4), .val (.int (4 : Int32)), .val (.int cx), .val (.int cy), .val (.int cz), .val (.ref a239), .val (.int (0 : Int32)), .unset, .unset, .unset] [])) t → Steps p.tables e below G0 t := by
        intro t kt
        refine K239 t ?_
        refine XS.astore X239.here hx rfl (hb hby at_505) rfl rfl (l' := #[.val (.int p0), .val (.int p1), .val (.int p2), .val (.int p3), .val (.int p4), .val (.int (4 : Int32)), .val (.int cx), .val (.int cy), .val (.int cz), .val (.ref a239), .unset, .unset, .unset, .unset]) rfl ?_
        show Steps p.tables e below (T239.setTop (mkF m 507 #[.val (.int p0), .val (.int p1), .val (.int p2), .val (.int p3), .val (.int p4), .val (.int (4 : Int32)), .val (.int cx), .val (.int cy), .val (.int cz), .val (.ref a239), .unset, .unset, .unset, .unset] [])) _
        refine XS.iconst X239.here hx rfl (hb hby at_507) ?_
        show Steps p.tables e below (T239.setTop (mkF m 508 #[.val (.int p0), .val (.int p1), .val (.int p2), .val (.int p3), .val (.int p4), .val (.int (4 : Int32)), .val (.int cx), .val (.int cy), .val (.int cz), .val (.ref a239), .unset, .unset, .unset, .unset] [(.int (0 : Int32))])) _
        refine XS.istore X239.here hx rfl (hb hby at_508) rfl (l' := #[.val (.int p0), .val (.int p1), .val (.int p2), .val (.int p3), .val (.int p4), .val (.int (4 : Int32)), .val (.int cx), .val (.int cy), .val (.int cz), .val (.ref a239), .val (.int (0 : Int32)), .unset, .unset, .unset]) rfl ?_
        show Steps p.tables e below (T239.setTop (mkF m 510 #[.val (.int p0), .val (.int p1), .val (.int p2), .val (.int p3), .val (.int p4), .val (.int (4 : Int32)), .val (.int cx), .val (.int cy), .val (.int cz), .val (.ref a239), .val (.int (0 : Int32)), .unset, .unset, .unset] [])) _
        exact kt
      have f241 := (HO.ext E239)
      have hq : own_q [(116 : Int32), (101 : Int32), (120 : Int32), (116 : Int32), (47 : Int32), (104 : Int32), (116 : Int32), (109 : Int32), (108 : Int32), (59 : Int32), (99 : Int32), (104 : Int32), (97 : Int32), (114 : Int32), (115 : Int32), (101 : Int32), (116 : Int32), (61 : Int32), (117 : Int32), (116 : Int32), (102 : Int32), (45 : Int32), (56 : Int32)] own_html = (0 : Int32) := by decide
      exact ⟨_, _, _, _, _, a239, [(116 : Int32), (101 : Int32), (120 : Int32), (116 : Int32), (47 : Int32), (104 : Int32), (116 : Int32), (109 : Int32), (108 : Int32), (59 : Int32), (99 : Int32), (104 : Int32), (97 : Int32), (114 : Int32), (115 : Int32), (101 : Int32), (116 : Int32), (61 : Int32), (117 : Int32), (116 : Int32), (102 : Int32), (45 : Int32), (56 : Int32)], .unset, .unset, .unset, X239.more (Nat.le_of_ble_eq_true rfl) (Nat.le_of_ble_eq_true rfl), e239, N0, Z239, hS239, hk239, hZ239, hown239, CH239, f241, sl239, One.u, fun t kt => K240 t (by rw [hq, hk5] at kt; exact kt)⟩
  have K242 : ∀ t, Steps p.tables e below (TJ.setTop (mkF m 512 #[.val (.int p0), .val (.int p1), .val (.int p2), .val (.int p3), .val (.int p4), .val (.int k), .val (.int cx), .val (.int cy), .val (.int cz), .val (.ref aJ), .val (.int (own_q cs own_html)), s11, s12, s13] [(.ref aJ)])) t → Steps p.tables e below G0 t := by
    intro t kt
    refine KJ t ?_
    refine XS.aload XJ.here hx rfl (hb hby at_510) rfl rfl ?_
    show Steps p.tables e below (TJ.setTop (mkF m 512 #[.val (.int p0), .val (.int p1), .val (.int p2), .val (.int p3), .val (.int p4), .val (.int k), .val (.int cx), .val (.int cy), .val (.int cz), .val (.ref aJ), .val (.int (own_q cs own_html)), s11, s12, s13] [(.ref aJ)])) _
    exact kt
  obtain ⟨v243, _, ⟨T243, L243, k243, n243⟩, -, Xq243, S2243, g2243, ⟨Lc243, hQ243, l243, y243, z243, CR243⟩, st243⟩ := callSS XJ hx (y := (⟨"com/example/affordance/affordance/MediaTypes", "contentType", "(Ljava/lang/String;)Ljava/lang/String;"⟩ : MethodName)) hownJ (mvT hZJ (hw _ (List.mem_of_getElem? (i := 9) rfl))) (mvT hZJ (hw _ (List.mem_of_getElem? (i := 10) rfl))) (mvT hZJ (hw _ (List.mem_of_getElem? (i := 11) rfl))) (mvT hZJ (hw _ (List.mem_of_getElem? (i := 12) rfl))) (by decide) (backOfSH (W := 0) (rm1 l Z aa hw hEL [] (aJ) cs G1 hJ n0 ZJ O2 P5 HOJ SJ) hZJ (hw _ (List.mem_of_getElem? (i := 12) rfl)) (hw _ (List.mem_of_getElem? (i := 11) rfl)) (by decide) (by decide) hEL CHJ.1) (g := (mkF m 512 #[.val (.int p0), .val (.int p1), .val (.int p2), .val (.int p3), .val (.int p4), .val (.int k), .val (.int cx), .val (.int cy), .val (.int cz), .val (.ref aJ), .val (.int (own_q cs own_html)), s11, s12, s13] [(.ref aJ)])) rfl (by rw [hml]; rfl) (argsL := [(.ref aJ)]) (rest := []) (lenOf pd_PLjava_lang_String_QLjava_lang_String_ rfl) rfl (by show 2 * 0 + _ ≤ _; exact Nat.le_of_eq rfl) (hb hby at_512) (fun _ _ => ⟨rfl, eJ, (by decide : 30 + 4 ≤ _), (by decide : 1200 + 136 ≤ _)⟩)
  dsimp only [Pt.U, Pt.locs, Pt.cells, Pt.slots] at Xq243 S2243 g2243 l243 y243 z243 st243 hQ243 CR243
  subst l243 y243 z243
  obtain ⟨X243, hS243, hZ243, hown243⟩ := rebS hSJ (show _ ≤ TJ.heap.size by rw [eJ]; exact hkJ) Xq243 S2243 g2243 hZJ hownJ
  have hk243 : T243.heap.size ≤ T243.heap.size := Nat.le_refl _
  have CH243 := CHJ.trans CR243
  obtain ⟨r243, rfl, N243q, KV243, SO243⟩ := hQ243
  have N243 := Fr.app NJ N243q
  have K243 : ∀ t, Steps p.tables e below (T243.setTop (mkF m 515 #[.val (.int p0), .val (.int p1), .val (.int p2), .val (.int p3), .val (.int p4), .val (.int k), .val (.int cx), .val (.int cy), .val (.int cz), .val (.ref aJ), .val (.int (own_q cs own_html)), s11, s12, s13] [(.ref r243)])) t → Steps p.tables e below G0 t := fun t kt => K242 t (st243.trans kt)
  have Z243 : n0 ≤ T243.heap.size := Nat.le_trans ZJ KV243.1
  have K244 : ∀ t, Steps p.tables e below (T243.setTop (mkF m 519 #[.val (.int p0), .val (.int p1), .val (.int p2), .val (.int p3), .val (.int p4), .val (.int k), .val (.int cx), .val (.int cy), .val (.int cz), .val (.ref aJ), .val (.int (own_q cs own_html)), .val (.ref r243), s12, s13] [(.int (own_q cs own_html))])) t → Steps p.tables e below G0 t := by
    intro t kt
    refine K243 t ?_
    refine XS.astore X243.here hx rfl (hb hby at_515) rfl rfl (l' := #[.val (.int p0), .val (.int p1), .val (.int p2), .val (.int p3), .val (.int p4), .val (.int k), .val (.int cx), .val (.int cy), .val (.int cz), .val (.ref aJ), .val (.int (own_q cs own_html)), .val (.ref r243), s12, s13]) (os_0_11 oneJ) ?_
    show Steps p.tables e below (T243.setTop (mkF m 517 #[.val (.int p0), .val (.int p1), .val (.int p2), .val (.int p3), .val (.int p4), .val (.int k), .val (.int cx), .val (.int cy), .val (.int cz), .val (.ref aJ), .val (.int (own_q cs own_html)), .val (.ref r243), s12, s13] [])) _
    refine XS.iload X243.here hx rfl (hb hby at_517) rfl ?_
    show Steps p.tables e below (T243.setTop (mkF m 519 #[.val (.int p0), .val (.int p1), .val (.int p2), .val (.int p3), .val (.int p4), .val (.int k), .val (.int cx), .val (.int cy), .val (.int cz), .val (.ref aJ), .val (.int (own_q cs own_html)), .val (.ref r243), s12, s13] [(.int (own_q cs own_html))])) _
    exact kt
  by_cases hc245 : cs = own_html
  ·
    have K246 : ∀ t, Steps p.tables e below (T243.setTop (mkF m 524 #[.val (.int p0), .val (.int p1), .val (.int p2), .val (.int p3), .val (.int p4), .val (.int k), .val (.int cx), .val (.int cy), .val (.int cz), .val (.ref aJ), .val (.int (own_q cs own_html)), .val (.ref r243), s12, s13] [(.ref r243)])) t → Steps p.tables e below G0 t := by
      intro t kt
      refine K244 t ?_
      refine XS.ifNo X243.here hx rfl (hb hby at_519) rfl ((if0 _ _).trans (feq (by rw [own_q, if_pos hc245]; decide)).1) ?_
      show Steps p.tables e below (T243.setTop (mkF m 522 #[.val (.int p0), .val (.int p1), .val (.int p2), .val (.int p3), .val (.int p4), .val (.int k), .val (.int cx), .val (.int cy), .val (.int cz), .val (.ref aJ), .val (.int (own_q cs own_html)), .val (.ref r243), s12, s13] [])) _
      refine XS.aload X243.here hx rfl (hb hby at_522) rfl rfl ?_
      show Steps p.tables e below (T243.setTop (mkF m 524 #[.val (.int p0), .val (.int p1), .val (.int p2), .val (.int p3), .val (.int p4), .val (.int k), .val (.int cx), .val (.int cy), .val (.int cz), .val (.ref aJ), .val (.int (own_q cs own_html)), .val (.ref r243), s12, s13] [(.ref r243)])) _
      exact kt
    obtain ⟨a247, T247, h247, kk247, bb247, kc247, X247, e247, E247, hS247, hk247, hZ247, hown247, LE247, LC247, LV247, LA247, la247, lb247, CR247, -, -, st247⟩ := ldcCH X243 hx hZ243 hown243 (hw _ (List.mem_of_getElem? (i := 20) rfl)) (own_wS hw) (rfl : T243.heap = _) hS243 hk243 hEL (by decide +kernel) CH243.1 (vs := [(.int (116 : Int32)), (.int (101 : Int32)), (.int (120 : Int32)), (.int (116 : Int32)), (.int (47 : Int32)), (.int (104 : Int32)), (.int (116 : Int32)), (.int (109 : Int32)), (.int (108 : Int32)), (.int (59 : Int32)), (.int (99 : Int32)), (.int (104 : Int32)), (.int (97 : Int32)), (.int (114 : Int32)), (.int (115 : Int32)), (.int (101 : Int32)), (.int (116 : Int32)), (.int (61 : Int32)), (.int (117 : Int32)), (.int (116 : Int32)), (.int (102 : Int32)), (.int (45 : Int32)), (.int (56 : Int32))]) (z := (23 : Int32)) ⟨by decide, by decide⟩ (by decide) (by decide) (g := (mkF m 524 #[.val (.int p0), .val (.int p1), .val (.int p2), .val (.int p3), .val (.int p4), .val (.int k), .val (.int cx), .val (.int cy), .val (.int cz), .val (.ref aJ), .val (.int (own_q cs own_html)), .val (.ref r243), s12, s13] [(.ref r243)])) rfl (hb hby at_524) (n := 92) (by decide) (by decide) (by decide) (by decide)
    have K247 : ∀ t, Steps p.tables e below (T247.setTop (mkF m 526 #[.val (.int p0), .val (.int p1), .val (.int p2), .val (.int p3), .val (.int p4), .val (.int k), .val (.int cx), .val (.int cy), .val (.int cz), .val (.ref aJ), .val (.int (own_q cs own_html)), .val (.ref r243), s12, s13] [(.ref a247), (.ref r243)])) t → Steps p.tables e below G0 t := fun t kt => K246 t (st247 _ kt)
    have Z247 : n0 ≤ h247.size := Nat.le_trans Z243 E247.1
    have CH247 := CH243.trans CR247
    have hl247 : ((([(116 : Int32), (101 : Int32), (120 : Int32), (116 : Int32), (47 : Int32), (104 : Int32), (116 : Int32), (109 : Int32), (108 : Int32), (59 : Int32), (99 : Int32), (104 : Int32), (97 : Int32), (114 : Int32), (115 : Int32), (101 : Int32), (116 : Int32), (61 : Int32), (117 : Int32), (116 : Int32), (102 : Int32), (45 : Int32), (56 : Int32)] : List Int32).map StrChars.lo8).map Value.int) = [(.int (116 : Int32)), (.int (101 : Int32)), (.int (120 : Int32)), (.int (116 : Int32)), (.int (47 : Int32)), (.int (104 : Int32)), (.int (116 : Int32)), (.int (109 : Int32)), (.int (108 : Int32)), (.int (59 : Int32)), (.int (99 : Int32)), (.int (104 : Int32)), (.int (97 : Int32)), (.int (114 : Int32)), (.int (115 : Int32)), (.int (101 : Int32)), (.int (116 : Int32)), (.int (61 : Int32)), (.int (117 : Int32)), (.int (116 : Int32)), (.int (102 : Int32)), (.int (45 : Int32)), (.int (56 : Int32))] := by decide +kernel
    have sl247 : own_Str Z h247 a247 [(116 : Int32), (101 : Int32), (120 : Int32), (116 : Int32), (47 : Int32), (104 : Int32), (116 : Int32), (109 : Int32), (108 : Int32), (59 : Int32), (99 : Int32), (104 : Int32), (97 : Int32), (114 : Int32), (115 : Int32), (101 : Int32), (116 : Int32), (61 : Int32), (117 : Int32), (116 : Int32), (102 : Int32), (45 : Int32), (56 : Int32)] := ⟨LE247, LC247, ⟨_, _, LV247, by rw [hl247]; exact LA247⟩, by decide, by decide⟩
    have KQ248_0 := Keep.refl T243.heap []
    have KQ248_1 := KQ248_0.ext E247
    have s249 := own_Str.keep0 SO243 KQ248_1
    obtain ⟨EX250, CX250, ⟨bX250, kX250, VX250, KX250⟩, pX250, lX250⟩ := id s249
    obtain ⟨EY250, CY250, ⟨bY250, kY250, VY250, KY250⟩, pY250, lY250⟩ := id sl247
    have f251 := ((HOJ.keep KV243 (fun x hx => nomatch hx)).ext E247)
    obtain ⟨cq252, kq252, q252a, q252b, q252c⟩ := isOf hZ247 e247 EX250
    obtain ⟨v253, _, ⟨T253, L253, k253, n253⟩, -, X253, ⟨Lc253, hQ253, l253, y253, z253⟩, st253⟩ := X247.virtualBack hx (y := (⟨"java/lang/String", "equals", "(Ljava/lang/Object;)Z"⟩ : MethodName)) (z := (⟨"java/lang/String", "equals", "(Ljava/lang/Object;)Z"⟩ : MethodName)) hown247 (mvT hZ247 (hw _ (List.mem_of_getElem? (i := 21) rfl))) (mvT hZ247 (hw _ (List.mem_of_getElem? (i := 15) rfl))) (notFace_of_selects (args := #[]) (mvT hZ247 (hw _ (List.mem_of_getElem? (i := 17) rfl)))) (mvT hZ247 (hw _ (List.mem_of_getElem? (i := 17) rfl))) (mvT hZ247 (hw _ (List.mem_of_getElem? (i := 16) rfl))) (by decide) (StrChars.Road.eqW (W := 0) hZ247 (own_wsE hw) (kI := 4) (hw _ (List.mem_of_getElem? (i := 3) rfl)) EX250 VX250 CX250 KX250 (StrChars.Road.codOf rfl (fun c hc => (pX250 c hc).2)) (own_up pX250) lX250 EY250 VY250 CY250 KY250 (StrChars.Road.codOf rfl (fun c hc => (pY250 c hc).2)) (own_up pY250) lY250 (O2.ext f251.2) P5 (by decide) (by decide)) q252a q252c (g := (mkF m 526 #[.val (.int p0), .val (.int p1), .val (.int p2), .val (.int p3), .val (.int p4), .val (.int k), .val (.int cx), .val (.int cy), .val (.int cz), .val (.ref aJ), .val (.int (own_q cs own_html)), .val (.ref r243), s12, s13] [(.ref a247), (.ref r243)])) rfl (by rw [hml]; rfl) (Steps.refl _) (argsL := [(.ref a247)]) (rest := []) (lenOf pd_PLjava_lang_Object_QZ rfl) rfl (by show 2 * 0 + _ ≤ _; exact Nat.le_of_eq rfl) (hb hby at_526) (fun _ _ => ⟨rfl, e247, (by decide : 36 + 0 ≤ _), (by decide : 1432 + 0 ≤ _)⟩)
    dsimp only [Pt.U, Pt.locs, Pt.cells, Pt.slots] at X253 l253 y253 z253 st253 hQ253
    subst l253 y253 z253
    obtain ⟨hv253, rfl, e253⟩ := hQ253
    obtain rfl := own_qv hv253
    have N253 := Fr.app N243 (Fr.nil n0)
    have K253 : ∀ t, Steps p.tables e below (T253.setTop (mkF m 529 #[.val (.int p0), .val (.int p1), .val (.int p2), .val (.int p3), .val (.int p4), .val (.int k), .val (.int cx), .val (.int cy), .val (.int cz), .val (.ref aJ), .val (.int (own_q cs own_html)), .val (.ref r243), s12, s13] [(.int (own_q (own_ct cs) [(116 : Int32), (101 : Int32), (120 : Int32), (116 : Int32), (47 : Int32), (104 : Int32), (116 : Int32), (109 : Int32), (108 : Int32), (59 : Int32), (99 : Int32), (104 : Int32), (97 : Int32), (114 : Int32), (115 : Int32), (101 : Int32), (116 : Int32), (61 : Int32), (117 : Int32), (116 : Int32), (102 : Int32), (45 : Int32), (56 : Int32)]))])) t → Steps p.tables e below G0 t := fun t kt => K247 t (st253.trans kt)
    obtain ⟨fs, hr, hrun, hended, hREW⟩ := X253.leaveW hS247 (by rw [e253]; exact hk247) (v := some (.int (nar .boolean (own_q (own_ct cs) [(116 : Int32), (101 : Int32), (120 : Int32), (116 : Int32), (47 : Int32), (104 : Int32), (116 : Int32), (109 : Int32), (108 : Int32), (59 : Int32), (99 : Int32), (104 : Int32), (97 : Int32), (114 : Int32), (115 : Int32), (101 : Int32), (116 : Int32), (61 : Int32), (117 : Int32), (116 : Int32), (102 : Int32), (45 : Int32), (56 : Int32)])))) (fun h => by rw [Bd.returns] at h; cases h)
    have CHE := CH247.trans (CHv.at X253 hZ247 hEL CH247.1)
    refine ⟨_, _, ?_, hrun, hended, _, _, rfl, ?_, ?_, hREW.1, hREW.2.1, hREW.2.2.1, hREW.2.2.2.mono (by decide) (by decide)⟩
    · rw [← hG0]
      refine K253 _ ?_
      exact retN X253 hx (t := .boolean) Bd.returns (by simp) (hb hby at_529) hr
    · show Q0 Z p0 p1 p2 p3 p4 G1 h0 n0 _ T253.heap _
      rw [e253]
      exact ⟨by rw [own_nar]; congr 2; rw [own_ct, if_pos hc245]; exact if_pos rfl, N253⟩
    · rw [hh]
      show CHr Z consts_1 s.vm h0 T253.vm T253.heap
      rw [e253]
      exact CHE
  ·
    have K254 : ∀ t, Steps p.tables e below (T243.setTop (mkF m 534 #[.val (.int p0), .val (.int p1), .val (.int p2), .val (.int p3), .val (.int p4), .val (.int k), .val (.int cx), .val (.int cy), .val (.int cz), .val (.ref aJ), .val (.int (own_q cs own_html)), .val (.ref r243), s12, s13] [(.ref aJ), (.ref r243)])) t → Steps p.tables e below G0 t := by
      intro t kt
      refine K244 t ?_
      refine XS.ifYes X243.here hx rfl (pc0 := 519) (pc' := 530) rfl (hb hby at_519) rfl ((if0 _ _).trans (teq (by rw [own_q, if_neg hc245])).1) (by decide) (by decide) ?_
      show Steps p.tables e below (T243.setTop (mkF m 530 #[.val (.int p0), .val (.int p1), .val (.int p2), .val (.int p3), .val (.int p4), .val (.int k), .val (.int cx), .val (.int cy), .val (.int cz), .val (.ref aJ), .val (.int (own_q cs own_html)), .val (.ref r243), s12, s13] [])) _
      refine XS.aload X243.here hx rfl (hb hby at_530) rfl rfl ?_
      show Steps p.tables e below (T243.setTop (mkF m 532 #[.val (.int p0), .val (.int p1), .val (.int p2), .val (.int p3), .val (.int p4), .val (.int k), .val (.int cx), .val (.int cy), .val (.int cz), .val (.ref aJ), .val (.int (own_q cs own_html)), .val (.ref r243), s12, s13] [(.ref r243)])) _
      refine XS.aload X243.here hx rfl (hb hby at_532) rfl rfl ?_
      show Steps p.tables e below (T243.setTop (mkF m 534 #[.val (.int p0), .val (.int p1), .val (.int p2), .val (.int p3), .val (.int p4), .val (.int k), .val (.int cx), .val (.int cy), .val (.int cz), .val (.ref aJ), .val (.int (own_q cs own_html)), .val (.ref r243), s12, s13] [(.ref aJ), (.ref r243)])) _
      exact kt
    have KQ255_0 := Keep.refl hJ []
    have KQ255_1 := KQ255_0.trans KV243 (fun x hx => nomatch hx)
    have s256 := own_Str.keep0 SJ KQ255_1
    obtain ⟨EX257, CX257, ⟨bX257, kX257, VX257, KX257⟩, pX257, lX257⟩ := id SO243
    obtain ⟨EY257, CY257, ⟨bY257, kY257, VY257, KY257⟩, pY257, lY257⟩ := id s256
    have f258 := (HOJ.keep KV243 (fun x hx => nomatch hx))
    obtain ⟨cq259, kq259, q259a, q259b, q259c⟩ := isOf hZ243 (rfl : T243.heap = _) EX257
    obtain ⟨v260, _, ⟨T260, L260, k260, n260⟩, -, X260, ⟨Lc260, hQ260, l260, y260, z260⟩, st260⟩ := X243.virtualBack hx (y := (⟨"java/lang/String", "equals", "(Ljava/lang/Object;)Z"⟩ : MethodName)) (z := (⟨"java/lang/String", "equals", "(Ljava/lang/Object;)Z"⟩ : MethodName)) hown243 (mvT hZ243 (hw _ (List.mem_of_getElem? (i := 21) rfl))) (mvT hZ243 (hw _ (List.mem_of_getElem? (i := 15) rfl))) (notFace_of_selects (args := #[]) (mvT hZ243 (hw _ (List.mem_of_getElem? (i := 17) rfl)))) (mvT hZ243 (hw _ (List.mem_of_getElem? (i := 17) rfl))) (mvT hZ243 (hw _ (List.mem_of_getElem? (i := 16) rfl))) (by decide) (StrChars.Road.eqW (W := 0) hZ243 (own_wsE hw) (kI := 4) (hw _ (List.mem_of_getElem? (i := 3) rfl)) EX257 VX257 CX257 KX257 (StrChars.Road.codOf rfl (fun c hc => (pX257 c hc).2)) (own_up pX257) lX257 EY257 VY257 CY257 KY257 (StrChars.Road.codOf rfl (fun c hc => (pY257 c hc).2)) (own_up pY257) lY257 (O2.ext f258.2) P5 (by decide) (by decide)) q259a q259c (g := (mkF m 534 #[.val (.int p0), .val (.int p1), .val (.int p2), .val (.int p3), .val (.int p4), .val (.int k), .val (.int cx), .val (.int cy), .val (.int cz), .val (.ref aJ), .val (.int (own_q cs own_html)), .val (.ref r243), s12, s13] [(.ref aJ), (.ref r243)])) rfl (by rw [hml]; rfl) (Steps.refl _) (argsL := [(.ref aJ)]) (rest := []) (lenOf pd_PLjava_lang_Object_QZ rfl) rfl (by show 2 * 0 + _ ≤ _; exact Nat.le_of_eq rfl) (hb hby at_534) (fun _ _ => ⟨rfl, (rfl : T243.heap = _), (by decide : 34 + 0 ≤ _), (by decide : 1336 + 0 ≤ _)⟩)
    dsimp only [Pt.U, Pt.locs, Pt.cells, Pt.slots] at X260 l260 y260 z260 st260 hQ260
    subst l260 y260 z260
    obtain ⟨hv260, rfl, e260⟩ := hQ260
    obtain rfl := own_qv hv260
    have N260 := Fr.app N243 (Fr.nil n0)
    have K260 : ∀ t, Steps p.tables e below (T260.setTop (mkF m 537 #[.val (.int p0), .val (.int p1), .val (.int p2), .val (.int p3), .val (.int p4), .val (.int k), .val (.int cx), .val (.int cy), .val (.int cz), .val (.ref aJ), .val (.int (own_q cs own_html)), .val (.ref r243), s12, s13] [(.int (own_q (own_ct cs) cs))])) t → Steps p.tables e below G0 t := fun t kt => K254 t (st260.trans kt)
    obtain ⟨fs, hr, hrun, hended, hREW⟩ := X260.leaveW hS243 (by rw [e260]; exact hk243) (v := some (.int (nar .boolean (own_q (own_ct cs) cs)))) (fun h => by rw [Bd.returns] at h; cases h)
    have CHE := CH243.trans (CHv.at X260 hZ243 hEL CH243.1)
    refine ⟨_, _, ?_, hrun, hended, _, _, rfl, ?_, ?_, hREW.1, hREW.2.1, hREW.2.2.1, hREW.2.2.2.mono (by decide) (by decide)⟩
    · rw [← hG0]
      refine K260 _ ?_
      exact retN X260 hx (t := .boolean) Bd.returns (by simp) (hb hby at_537) hr
    · show Q0 Z p0 p1 p2 p3 p4 G1 h0 n0 _ T260.heap _
      rw [e260]
      exact ⟨by rw [own_nar]; congr 2; rw [own_ct, if_neg hc245]; exact if_pos rfl, N260⟩
    · rw [hh]
      show CHr Z consts_1 s.vm h0 T260.vm T260.heap
      rw [e260]
      exact CHE
set_option maxRecDepth 65536 in
set_option maxHeartbeats 40000000 in
theorem comes_1 {Post : Tables → Env → Array Value → State → Outcome → State → Prop} (hpost : ∀ tb e args s v u, (limb_1_1.after args s (.returned v) u = true ∧ limb_1_2.after args s (.returned v) u = true ∧ True) → ReturnedEndW s (.returned v) u (Jvm.fieldLocs frame_1_writes args s ++ Jvm.arrayLocs frame_1_arrays args s ++ Jvm.staticLocs frame_1_statics s) 40 11456 → Post tb e args s (.returned v) u) :
    ArmFor flags0 classFile x code maxLocals ret World_1 tables_1 room_1 Calls_1 rest_1 Pre_1 Post := by
  intro l hfl _ _ p e ha hc hk s m args below hf hA hF happ hP
  obtain ⟨hcalls, hrest, hpre⟩ := hP
  obtain ⟨-, -, -, hnamed, -, -, -, hat⟩ := (Spec.applies_iff hf).mp happ
  obtain ⟨hg, hn⟩ := and_e (Cond.before_iff.mp (show (Jvm.Cond.and given_1 narrow_1).before args s = true from hpre))
  obtain ⟨g1, g2⟩ := and_e hg
  obtain ⟨g3, g4⟩ := and_e g2
  obtain ⟨g5, g6⟩ := and_e g4
  obtain ⟨g7, g8⟩ := and_e g6
  obtain ⟨g9, g10⟩ := and_e g8
  obtain ⟨w0, w1, w2, w3, w4, rfl⟩ : ∃ w0 w1 w2 w3 w4 : Value, args = #[w0, w1, w2, w3, w4] := by
    have hs : args.size = 5 := by simpa [Cond.value, given_1] using g1
    obtain ⟨L⟩ := args
    match L, hs with
    | [w0, w1, w2, w3, w4], _ => exact ⟨w0, w1, w2, w3, w4, rfl⟩
  have hw := fun d (hd : d ∈ tables_1) => atoms_spec (ws := Jvm.Cond.code x code maxLocals ret :: tables_1) hat d (List.mem_cons_of_mem _ hd)
  have hfit : Fit s := fun {y c} hc i hi => by
    obtain ⟨ha, rfl⟩ := Array.getElem?_eq_some_iff.mp hc
    have q := List.all_eq_true.mp ((Array.all_eq_true_iff_forall_mem.mp hF) _ (Array.getElem_mem ha)) i (List.mem_range.mpr hi)
    simpa [Array.getElem?_eq_getElem hi] using q
  obtain ⟨hsets, hown0⟩ := atoms_of _ (rest_1_c_eq ▸ (show rest_1_c.before _ s = true from hrest))
  have hr0 := Cond.before_iff.mp hown0
  obtain ⟨i0, ei0⟩ := is_v g3
  obtain rfl : w0 = (.int i0) := Option.some.inj ei0
  obtain ⟨i1, ei1⟩ := is_v g5
  obtain rfl : w1 = (.int i1) := Option.some.inj ei1
  obtain ⟨i2, ei2⟩ := is_v g7
  obtain rfl : w2 = (.int i2) := Option.some.inj ei2
  obtain ⟨i3, ei3⟩ := is_v g9
  obtain rfl : w3 = (.int i3) := Option.some.inj ei3
  obtain ⟨i4, ei4⟩ := is_v g10
  obtain rfl : w4 = (.int i4) := Option.some.inj ei4
  obtain ⟨G1, evG⟩ := is_v (Cond.before_iff.mp (hsets _ (List.mem_of_getElem? (i := 1) rfl)))
  have O2 := Sta.start evG (Or.inl (hsets _ (List.mem_of_getElem? (i := 0) rfl)))
  have hcw := (hsets _ (List.mem_of_getElem? (i := 2) rfl))
  have P5 : ¬ G1 = 0 := gotF (Cond.eq_ints evG (Term.int_eval (0))) (not_v (Cond.before_iff.mp hcw))
  have hCH : CHv s consts_1 s.vm s.heap := CHv.start (own_EW hw) (fun p hp => hcalls.1 p hp) hcw (hw _ (List.mem_of_getElem? (i := 4) rfl)) (hw _ (List.mem_of_getElem? (i := 3) rfl))
  obtain ⟨n, o, h1, h2, h3, _, L, rfl, ⟨rfl, N⟩, -, hq⟩ := rm0 l s _ hw (own_EW hw) tables_1 i0 i1 i2 i3 i4 G1 s.heap s.heap.size (Nat.le_refl _) O2 P5 (Old.start s) p e ha hc hk s m _ below hf ((Spec.applies_iff_loose hf).mp happ).1 ⟨rfl, State.Warmed39.refl s, rfl, hCH⟩ trivial
  refine ⟨n, _, h1, h2, h3, hpost _ _ _ _ _ _ ⟨Cond.after_iff.mpr rfl, Cond.after_iff.mpr (eq_i res_at (Term.int_eval (1)) rfl), trivial⟩ ⟨hq.1, hq.2.1, hq.2.2.1, (hq.2.2.2.sift fun y hy => Or.inr (N y hy)).mono (by decide) (by decide)⟩⟩
theorem main_1_1 : Claimed_1_1 := comes_1 fun _ _ _ _ _ _ h hF => ⟨h.1, hF⟩
theorem main_1_2 : Claimed_1_2 := comes_1 fun _ _ _ _ _ _ h hF => ⟨h.2.1, hF⟩
end Jvm.Pilot.@@N@@
namespace Jvm.Pilot.@@N@@
open Jvm Jvm.ClassFile Sem Op Lib Jvm.Free Jvm.Stand Jvm.Pilot.@@N@@.Jvm.D
/-! MADE BY PROGRAM (witnessworld.py) out of the Statement's table words and the real class files: 20 classes; the members and pool entries that the words name. The judged class is class 1, her method 1. -/
namespace start1
open Jvm.ClassFile
def u (s : String) : CpInfo := .utf8 (stringToUtf16 s)
/-- a pool by its gaps: so many unusable entries, then the entry; so many at the end -/
def gap : Nat → List CpInfo → List CpInfo
  | 0, r => r
  | n + 1, r => .unusable :: gap n r
def poolList (es : List (Nat × CpInfo)) (last : Nat) : List CpInfo := es.foldr (fun e r => gap e.1 (e.2 :: r)) (gap last [])
def pool (es : List (Nat × CpInfo)) (last : Nat) : Array CpInfo := ⟨poolList es last⟩
def fileOf (pool : Array CpInfo) (this : Nat) (attrs : Array Attribute := #[]) (ms : Array MethodInfo := #[]) (fl : Nat := 33) (sup : Nat := 0) (ifs : Array Nat := #[]) (fds : Array FieldInfo := #[]) : ClassFile where
  minorVersion := 0
  majorVersion := 65
  constantPool := pool
  accessFlags := fl
  thisClass := this
  superClass := sup
  interfaces := ifs
  fields := fds
  methods := ms
  attributes := attrs
def plain (name : String) (sup : Option ClassId) : Class where
  name := name
  kind := .ordinary
  loader := none
  accessFlags := 33
  super := sup
  interfaces := #[]
  cf := none
  fields := #[]
  methods := #[]
  instanceTypes := #[]
  staticTypes := #[]
  resolved := #[]
  callSites := []
  init := .initialized
  statics := none
  mirror := none

def pool0 : Array CpInfo := pool [(5, u "<init>"), (0, u "()V"), (1, .class_ 10), (1, u "java/lang/Object")] 113

def k0c0 : Code := { maxStack := 0, maxLocals := 1, code := object_method_1_code, exceptionTable := #[], attributes := #[] }
def k0m0 : Method := { name := "<init>", desc := "()V", sig := { parameters := [], returnType := none }, accessFlags := 1, code := some k0c0 }
/-- java/lang/Object -/
def k0 : Class := { plain "java/lang/Object" none with
  accessFlags := 33
  interfaces := #[]
  cf := some (fileOf pool0 8 #[] #[{ accessFlags := 1, nameIndex := 5, descriptorIndex := 6, attributes := #[] }] 33 0 #[] #[])
  fields := #[]
  methods := #[k0m0]
  instanceTypes := #[]
  staticTypes := #[]
  resolved := Array.replicate 124 none
  statics := none }

def pool1 : Array CpInfo := pool [(2, .class_ 4), (1, u "java/lang/Object"), (0, u "<init>"), (0, u "()V"), (0, .integer 2147483647), (0, .string 9), (0, u "text/html"), (0, .class_ 11), (0, u "java/lang/String"), (0, .methodref 10 13), (0, .nameAndType 5 14), (0, u "([C)V"), (0, .string 16), (0, u "application/json"), (0, .string 18), (0, u "application/ld+json"), (0, .string 20), (0, u "application/merge-patch+json"), (0, .string 22), (0, u "application/problem+json"), (0, .string 24), (0, u "text/turtle"), (0, .string 26), (0, u "application/schema+json"), (0, .string 28), (0, u "text/html;charset=utf-8"), (0, .methodref 30 31), (0, .class_ 32), (0, .nameAndType 33 34), (0, u "com/example/affordance/affordance/MediaTypes"), (0, u "contentType"), (0, u "(Ljava/lang/String;)Ljava/lang/String;"), (0, .methodref 10 36), (0, .nameAndType 37 38), (0, u "equals"), (0, u "(Ljava/lang/Object;)Z"), (0, .class_ 40), (0, u "com/example/affordance/affordance/MediaTypesContentTypePinLaw"), (2, u "law"), (0, u "(IIIII)Z")] 5

def k1m0 : Method := { name := "<init>", desc := "()V", sig := { parameters := [], returnType := none }, accessFlags := 1, code := none }
def k1c1 : Code := { maxStack := 6, maxLocals := 14, code := code, exceptionTable := #[], attributes := #[] }
def k1m1 : Method := { name := "law", desc := "(IIIII)Z", sig := { parameters := [.int, .int, .int, .int, .int], returnType := some .boolean }, accessFlags := 9, code := some k1c1 }
/-- com/example/affordance/affordance/MediaTypesContentTypePinLaw -/
def k1 : Class := { plain "com/example/affordance/affordance/MediaTypesContentTypePinLaw" (some 0) with
  accessFlags := 49
  interfaces := #[]
  cf := some (fileOf pool1 39 #[] #[{ accessFlags := 1, nameIndex := 5, descriptorIndex := 6, attributes := #[] }, { accessFlags := 9, nameIndex := 43, descriptorIndex := 44, attributes := #[] }] 49 2 #[] #[])
  fields := #[]
  methods := #[k1m0, k1m1]
  instanceTypes := #[]
  staticTypes := #[]
  resolved := Array.replicate 50 none
  statics := none }

def pool2 : Array CpInfo := pool [(1, .class_ 2), (0, u "java/io/Serializable"), (0, .class_ 4), (0, u "java/lang/Object")] 2

/-- java/io/Serializable -/
def k2 : Class := { plain "java/io/Serializable" (some 0) with
  accessFlags := 1537
  interfaces := #[]
  cf := some (fileOf pool2 1 #[] #[] 1537 3 #[] #[])
  fields := #[]
  methods := #[]
  instanceTypes := #[]
  staticTypes := #[]
  resolved := Array.replicate 7 none
  statics := none }

def pool3 : Array CpInfo := pool [(1, .class_ 2), (0, u "java/lang/Comparable"), (0, .class_ 4), (0, u "java/lang/Object")] 7

/-- java/lang/Comparable -/
def k3 : Class := { plain "java/lang/Comparable" (some 0) with
  accessFlags := 1537
  interfaces := #[]
  cf := some (fileOf pool3 1 #[] #[] 1537 3 #[] #[])
  fields := #[]
  methods := #[]
  instanceTypes := #[]
  staticTypes := #[]
  resolved := Array.replicate 12 none
  statics := none }

def pool4 : Array CpInfo := pool [(2, .class_ 4), (1, u "java/lang/CharSequence"), (42, .class_ 48), (0, u "java/lang/CharSequence$1CodePointIterator"), (10, .class_ 60), (0, u "java/lang/CharSequence$1CharIterator"), (5, .class_ 67), (0, u "java/lang/Object")] 63

/-- java/lang/CharSequence -/
def k4 : Class := { plain "java/lang/CharSequence" (some 0) with
  accessFlags := 1537
  interfaces := #[]
  cf := some (fileOf pool4 2 #[.nestMembers #[47, 59]] #[] 1537 66 #[] #[])
  fields := #[]
  methods := #[]
  instanceTypes := #[]
  staticTypes := #[]
  resolved := Array.replicate 131 none
  statics := none }

def pool5 : Array CpInfo := pool [(1, .class_ 2), (0, u "java/lang/constant/Constable"), (0, .class_ 4), (0, u "java/lang/Object")] 6

/-- java/lang/constant/Constable -/
def k5 : Class := { plain "java/lang/constant/Constable" (some 0) with
  accessFlags := 1537
  interfaces := #[]
  cf := some (fileOf pool5 1 #[] #[] 1537 3 #[] #[])
  fields := #[]
  methods := #[]
  instanceTypes := #[]
  staticTypes := #[]
  resolved := Array.replicate 11 none
  statics := none }

def pool6 : Array CpInfo := pool [(1, .class_ 2), (0, u "java/lang/constant/ConstantDesc"), (0, .class_ 4), (0, u "java/lang/Object")] 32

/-- java/lang/constant/ConstantDesc -/
def k6 : Class := { plain "java/lang/constant/ConstantDesc" (some 0) with
  accessFlags := 1537
  interfaces := #[]
  cf := some (fileOf pool6 1 #[] #[] 1537 3 #[] #[])
  fields := #[]
  methods := #[]
  instanceTypes := #[]
  staticTypes := #[]
  resolved := Array.replicate 37 none
  statics := none }

def pool7 : Array CpInfo := pool [(1, .methodref 2 3), (0, .class_ 4), (0, .nameAndType 5 6), (0, u "java/lang/Object"), (0, u "<init>"), (0, u "()V"), (0, .string 8), (0, u ""), (0, .fieldref 10 11), (0, .class_ 12), (0, .nameAndType 13 14), (0, u "java/lang/String"), (0, u "value"), (0, u "[B"), (0, .fieldref 10 16), (0, .nameAndType 17 18), (0, u "coder"), (0, u "B"), (2, u "hash"), (0, u "I"), (2, u "hashIsZero"), (0, u "Z"), (0, .methodref 10 28), (0, .nameAndType 5 29), (0, u "([CIILjava/lang/Void;)V"), (8, .fieldref 10 39), (0, .nameAndType 40 26), (0, u "COMPACT_STRINGS"), (1, .class_ 44), (1, u "java/lang/StringUTF16"), (0, u "compress"), (1, .methodref 42 48), (0, .nameAndType 49 50), (0, u "coderFromArrayLen"), (0, u "([BI)B"), (56, .class_ 109), (1, u "java/lang/StringLatin1"), (67, .methodref 42 178), (0, .nameAndType 45 179), (0, u "([CII)[B"), (361, .methodref 107 542), (0, .nameAndType 543 544), (0, u "equals"), (0, u "([B[B)Z"), (28, u "(Ljava/lang/Object;)Z"), (1, .class_ 576), (0, u "java/lang/CharSequence"), (22, u "CASE_INSENSITIVE_ORDER"), (0, u "Ljava/util/Comparator;"), (409, u "([C)V"), (90, u "serialPersistentFields"), (0, u "[Ljava/io/ObjectStreamField;"), (0, .class_ 1104), (0, u "java/lang/String$CaseInsensitiveComparator"), (1, .class_ 1107), (0, u "java/io/Serializable"), (0, .class_ 1109), (0, u "java/lang/Comparable"), (0, .class_ 1111), (0, u "java/lang/constant/Constable"), (0, .class_ 1113), (0, u "java/lang/constant/ConstantDesc"), (2, u "serialVersionUID"), (0, u "J"), (3, u "REPL"), (0, u "C"), (2, u "LATIN1"), (1, u "UTF16")] 323

def k7m0 : Method := { name := "<init>", desc := "()V", sig := { parameters := [], returnType := none }, accessFlags := 1, code := none }
def k7c1 : Code := { maxStack := 5, maxLocals := 2, code := jdk_42_method_3_code, exceptionTable := #[], attributes := #[] }
def k7m1 : Method := { name := "<init>", desc := "([C)V", sig := { parameters := [(.array .char)], returnType := none }, accessFlags := 1, code := some k7c1 }
def k7c2 : Code := { maxStack := 2, maxLocals := 3, code := jdk_42_method_66_code, exceptionTable := #[], attributes := #[] }
def k7m2 : Method := { name := "equals", desc := "(Ljava/lang/Object;)Z", sig := { parameters := [(.object "java/lang/Object")], returnType := some .boolean }, accessFlags := 1, code := some k7c2 }
def k7c3 : Code := { maxStack := 4, maxLocals := 6, code := jdk_42_method_149_code, exceptionTable := #[], attributes := #[] }
def k7m3 : Method := { name := "<init>", desc := "([CIILjava/lang/Void;)V", sig := { parameters := [(.array .char), .int, .int, (.object "java/lang/Void")], returnType := none }, accessFlags := 2, code := some k7c3 }
/-- java/lang/String -/
def k7 : Class := { plain "java/lang/String" (some 0) with
  accessFlags := 49
  interfaces := #[2, 3, 4, 5, 6]
  cf := some (fileOf pool7 10 #[.nestMembers #[1103]] #[{ accessFlags := 1, nameIndex := 5, descriptorIndex := 6, attributes := #[] }, { accessFlags := 1, nameIndex := 5, descriptorIndex := 1010, attributes := #[] }, { accessFlags := 1, nameIndex := 543, descriptorIndex := 573, attributes := #[] }, { accessFlags := 2, nameIndex := 5, descriptorIndex := 29, attributes := #[] }] 49 2 #[1106, 1108, 575, 1110, 1112] #[{ accessFlags := 18, nameIndex := 13, descriptorIndex := 14, attributes := #[] }, { accessFlags := 18, nameIndex := 17, descriptorIndex := 18, attributes := #[] }, { accessFlags := 2, nameIndex := 21, descriptorIndex := 22, attributes := #[] }, { accessFlags := 2, nameIndex := 25, descriptorIndex := 26, attributes := #[] }, { accessFlags := 26, nameIndex := 1116, descriptorIndex := 1117, attributes := #[] }, { accessFlags := 24, nameIndex := 40, descriptorIndex := 26, attributes := #[] }, { accessFlags := 26, nameIndex := 1101, descriptorIndex := 1102, attributes := #[] }, { accessFlags := 26, nameIndex := 1121, descriptorIndex := 1122, attributes := #[] }, { accessFlags := 25, nameIndex := 599, descriptorIndex := 600, attributes := #[] }, { accessFlags := 24, nameIndex := 1125, descriptorIndex := 18, attributes := #[] }, { accessFlags := 24, nameIndex := 1127, descriptorIndex := 18, attributes := #[] }])
  fields := #[{ name := "value", type := (.array .byte), accessFlags := 18, slot := 0, constantValue := 0 }, { name := "coder", type := .byte, accessFlags := 18, slot := 1, constantValue := 0 }, { name := "hash", type := .int, accessFlags := 2, slot := 2, constantValue := 0 }, { name := "hashIsZero", type := .boolean, accessFlags := 2, slot := 3, constantValue := 0 }, { name := "serialVersionUID", type := .long, accessFlags := 26, slot := 0, constantValue := 0 }, { name := "COMPACT_STRINGS", type := .boolean, accessFlags := 24, slot := 1, constantValue := 0 }, { name := "serialPersistentFields", type := (.array (.object "java/io/ObjectStreamField")), accessFlags := 26, slot := 2, constantValue := 0 }, { name := "REPL", type := .char, accessFlags := 26, slot := 3, constantValue := 0 }, { name := "CASE_INSENSITIVE_ORDER", type := (.object "java/util/Comparator"), accessFlags := 25, slot := 4, constantValue := 0 }, { name := "LATIN1", type := .byte, accessFlags := 24, slot := 5, constantValue := 0 }, { name := "UTF16", type := .byte, accessFlags := 24, slot := 6, constantValue := 0 }]
  methods := #[k7m0, k7m1, k7m2, k7m3]
  instanceTypes := #[(.array .byte), .byte, .int, .boolean]
  staticTypes := #[.long, .boolean, (.array (.object "java/io/ObjectStreamField")), .char, (.object "java/util/Comparator"), .byte, .byte]
  resolved := Array.replicate 1451 none
  statics := some 0 }

def pool8 : Array CpInfo := pool [(2, .class_ 4), (1, u "java/lang/Object"), (0, u "<init>"), (0, u "()V"), (0, .class_ 8), (0, u "com/example/affordance/affordance/MediaTypes"), (0, .string 10), (0, u "text/html"), (0, .methodref 12 13), (0, .class_ 14), (0, .nameAndType 15 16), (0, u "java/lang/String"), (0, u "equals"), (0, u "(Ljava/lang/Object;)Z"), (0, .string 18), (0, u "text/html;charset=utf-8"), (0, u "JSON"), (0, u "Ljava/lang/String;"), (3, u "JSON_LD"), (2, u "MERGE_PATCH"), (2, u "PROBLEM_JSON"), (2, u "TURTLE"), (2, u "SCHEMA_JSON"), (2, u "HTML"), (2, u "contentType"), (0, u "(Ljava/lang/String;)Ljava/lang/String;")] 3

def k8m0 : Method := { name := "<init>", desc := "()V", sig := { parameters := [], returnType := none }, accessFlags := 2, code := none }
def k8c1 : Code := { maxStack := 2, maxLocals := 1, code := prog_19_method_2_code, exceptionTable := #[], attributes := #[] }
def k8m1 : Method := { name := "contentType", desc := "(Ljava/lang/String;)Ljava/lang/String;", sig := { parameters := [(.object "java/lang/String")], returnType := some (.object "java/lang/String") }, accessFlags := 9, code := some k8c1 }
/-- com/example/affordance/affordance/MediaTypes -/
def k8 : Class := { plain "com/example/affordance/affordance/MediaTypes" (some 0) with
  accessFlags := 33
  interfaces := #[]
  cf := some (fileOf pool8 7 #[] #[{ accessFlags := 2, nameIndex := 5, descriptorIndex := 6, attributes := #[] }, { accessFlags := 9, nameIndex := 42, descriptorIndex := 43, attributes := #[] }] 33 2 #[] #[{ accessFlags := 25, nameIndex := 19, descriptorIndex := 20, attributes := #[] }, { accessFlags := 25, nameIndex := 24, descriptorIndex := 20, attributes := #[] }, { accessFlags := 25, nameIndex := 27, descriptorIndex := 20, attributes := #[] }, { accessFlags := 25, nameIndex := 30, descriptorIndex := 20, attributes := #[] }, { accessFlags := 25, nameIndex := 33, descriptorIndex := 20, attributes := #[] }, { accessFlags := 25, nameIndex := 36, descriptorIndex := 20, attributes := #[] }, { accessFlags := 25, nameIndex := 39, descriptorIndex := 20, attributes := #[] }])
  fields := #[{ name := "JSON", type := (.object "java/lang/String"), accessFlags := 25, slot := 0, constantValue := 0 }, { name := "JSON_LD", type := (.object "java/lang/String"), accessFlags := 25, slot := 1, constantValue := 0 }, { name := "MERGE_PATCH", type := (.object "java/lang/String"), accessFlags := 25, slot := 2, constantValue := 0 }, { name := "PROBLEM_JSON", type := (.object "java/lang/String"), accessFlags := 25, slot := 3, constantValue := 0 }, { name := "TURTLE", type := (.object "java/lang/String"), accessFlags := 25, slot := 4, constantValue := 0 }, { name := "SCHEMA_JSON", type := (.object "java/lang/String"), accessFlags := 25, slot := 5, constantValue := 0 }, { name := "HTML", type := (.object "java/lang/String"), accessFlags := 25, slot := 6, constantValue := 0 }]
  methods := #[k8m0, k8m1]
  instanceTypes := #[]
  staticTypes := #[(.object "java/lang/String"), (.object "java/lang/String"), (.object "java/lang/String"), (.object "java/lang/String"), (.object "java/lang/String"), (.object "java/lang/String"), (.object "java/lang/String")]
  resolved := Array.replicate 47 none
  statics := none }

def pool9 : Array CpInfo := pool [(4, .class_ 6), (1, u "java/lang/Object"), (0, u "<init>"), (0, u "()V"), (5, .class_ 16), (1, u "java/lang/StringLatin1"), (104, u "$assertionsDisabled"), (0, u "Z"), (98, .class_ 223), (1, u "java/lang/StringLatin1$LinesSpliterator"), (57, u "equals"), (0, u "([B[B)Z"), (107, .class_ 391), (0, u "java/lang/StringLatin1$CharsSpliterator")] 3

def k9m0 : Method := { name := "<init>", desc := "()V", sig := { parameters := [], returnType := none }, accessFlags := 0, code := none }
def k9c1 : Code := { maxStack := 3, maxLocals := 3, code := jdk_43_method_13_code, exceptionTable := #[], attributes := #[] }
def k9m1 : Method := { name := "equals", desc := "([B[B)Z", sig := { parameters := [(.array .byte), (.array .byte)], returnType := some .boolean }, accessFlags := 9, code := some k9c1 }
/-- java/lang/StringLatin1 -/
def k9 : Class := { plain "java/lang/StringLatin1" (some 0) with
  accessFlags := 48
  interfaces := #[]
  cf := some (fileOf pool9 14 #[.nestMembers #[390, 221]] #[{ accessFlags := 0, nameIndex := 7, descriptorIndex := 8, attributes := #[] }, { accessFlags := 9, nameIndex := 281, descriptorIndex := 282, attributes := #[] }] 48 4 #[] #[{ accessFlags := 4120, nameIndex := 121, descriptorIndex := 122, attributes := #[] }])
  fields := #[{ name := "$assertionsDisabled", type := .boolean, accessFlags := 4120, slot := 0, constantValue := 0 }]
  methods := #[k9m0, k9m1]
  instanceTypes := #[]
  staticTypes := #[.boolean]
  resolved := Array.replicate 395 none
  statics := none }

def pool10 : Array CpInfo := pool [(6, .class_ 8), (1, u "java/lang/Object"), (0, u "<init>"), (0, u "()V"), (1, .class_ 14), (1, u "java/lang/StringUTF16"), (31, u "$assertionsDisabled"), (0, u "Z"), (13, u "HI_BYTE_SHIFT"), (0, u "I"), (2, u "LO_BYTE_SHIFT"), (49, .methodref 12 116), (0, .nameAndType 117 118), (0, u "compress"), (0, u "([CI[BII)I"), (3, u "([CII)[B"), (138, u "coderFromArrayLen"), (0, u "([BI)B"), (106, .class_ 371), (1, u "java/lang/StringUTF16$LinesSpliterator"), (58, u "MAX_LENGTH"), (196, .class_ 628), (0, u "java/lang/StringUTF16$CodePointsSpliterator"), (0, .class_ 630), (0, u "java/lang/StringUTF16$CharsSpliterator")] 4

def k10m0 : Method := { name := "<init>", desc := "()V", sig := { parameters := [], returnType := none }, accessFlags := 0, code := none }
def k10c1 : Code := { maxStack := 2, maxLocals := 2, code := jdk_52_method_15_code, exceptionTable := #[], attributes := #[] }
def k10m1 : Method := { name := "coderFromArrayLen", desc := "([BI)B", sig := { parameters := [(.array .byte), .int], returnType := some .byte }, accessFlags := 8, code := some k10c1 }
def k10c2 : Code := { maxStack := 5, maxLocals := 6, code := jdk_52_method_16_code, exceptionTable := #[], attributes := #[] }
def k10m2 : Method := { name := "compress", desc := "([CII)[B", sig := { parameters := [(.array .char), .int, .int], returnType := some (.array .byte) }, accessFlags := 9, code := some k10c2 }
def k10c3 : Code := { maxStack := 3, maxLocals := 7, code := jdk_52_method_21_code, exceptionTable := #[], attributes := #[] }
def k10m3 : Method := { name := "compress", desc := "([CI[BII)I", sig := { parameters := [(.array .char), .int, (.array .byte), .int, .int], returnType := some .int }, accessFlags := 9, code := some k10c3 }
/-- java/lang/StringUTF16 -/
def k10 : Class := { plain "java/lang/StringUTF16" (some 0) with
  accessFlags := 48
  interfaces := #[]
  cf := some (fileOf pool10 12 #[.nestMembers #[627, 629, 369]] #[{ accessFlags := 0, nameIndex := 9, descriptorIndex := 10, attributes := #[] }, { accessFlags := 8, nameIndex := 261, descriptorIndex := 262, attributes := #[] }, { accessFlags := 9, nameIndex := 117, descriptorIndex := 122, attributes := #[] }, { accessFlags := 9, nameIndex := 117, descriptorIndex := 118, attributes := #[] }] 48 6 #[] #[{ accessFlags := 26, nameIndex := 61, descriptorIndex := 62, attributes := #[] }, { accessFlags := 26, nameIndex := 65, descriptorIndex := 62, attributes := #[] }, { accessFlags := 24, nameIndex := 430, descriptorIndex := 62, attributes := #[] }, { accessFlags := 4120, nameIndex := 46, descriptorIndex := 47, attributes := #[] }])
  fields := #[{ name := "HI_BYTE_SHIFT", type := .int, accessFlags := 26, slot := 0, constantValue := 0 }, { name := "LO_BYTE_SHIFT", type := .int, accessFlags := 26, slot := 1, constantValue := 0 }, { name := "MAX_LENGTH", type := .int, accessFlags := 24, slot := 2, constantValue := 0 }, { name := "$assertionsDisabled", type := .boolean, accessFlags := 4120, slot := 3, constantValue := 0 }]
  methods := #[k10m0, k10m1, k10m2, k10m3]
  instanceTypes := #[]
  staticTypes := #[.int, .int, .int, .boolean]
  resolved := Array.replicate 635 none
  statics := none }

def pool11 : Array CpInfo := pool [(2, .class_ 4), (1, u "java/lang/Object"), (0, u "<init>"), (0, u "()V"), (17, .class_ 26), (1, u "jdk/internal/util/Preconditions"), (28, .class_ 56), (0, u "jdk/internal/util/Preconditions$4"), (57, .class_ 115), (0, u "jdk/internal/util/Preconditions$1"), (7, u "SIOOBE_FORMATTER"), (0, u "Ljava/util/function/BiFunction;"), (0, .class_ 126), (0, u "jdk/internal/util/Preconditions$2"), (3, u "AIOOBE_FORMATTER"), (0, .class_ 132), (0, u "jdk/internal/util/Preconditions$3"), (3, u "IOOBE_FORMATTER")] 57

def k11m0 : Method := { name := "<init>", desc := "()V", sig := { parameters := [], returnType := none }, accessFlags := 1, code := none }
/-- jdk/internal/util/Preconditions -/
def k11 : Class := { plain "jdk/internal/util/Preconditions" (some 0) with
  accessFlags := 33
  interfaces := #[]
  cf := some (fileOf pool11 24 #[.nestMembers #[55, 131, 125, 114]] #[{ accessFlags := 1, nameIndex := 5, descriptorIndex := 6, attributes := #[] }] 33 2 #[] #[{ accessFlags := 25, nameIndex := 123, descriptorIndex := 124, attributes := #[] }, { accessFlags := 25, nameIndex := 130, descriptorIndex := 124, attributes := #[] }, { accessFlags := 25, nameIndex := 136, descriptorIndex := 124, attributes := #[] }])
  fields := #[{ name := "SIOOBE_FORMATTER", type := (.object "java/util/function/BiFunction"), accessFlags := 25, slot := 0, constantValue := 0 }, { name := "AIOOBE_FORMATTER", type := (.object "java/util/function/BiFunction"), accessFlags := 25, slot := 1, constantValue := 0 }, { name := "IOOBE_FORMATTER", type := (.object "java/util/function/BiFunction"), accessFlags := 25, slot := 2, constantValue := 0 }]
  methods := #[k11m0]
  instanceTypes := #[]
  staticTypes := #[(.object "java/util/function/BiFunction"), (.object "java/util/function/BiFunction"), (.object "java/util/function/BiFunction")]
  resolved := Array.replicate 194 none
  statics := some 1 }

def pool12 : Array CpInfo := pool [(9, u "<init>"), (6, .class_ 18), (1, u "java/lang/Object"), (0, u "()V"), (1, .class_ 23), (1, u "jdk/internal/util/ArraysSupport"), (0, u "LOG2_ARRAY_LONG_INDEX_SCALE"), (0, u "I"), (2, u "U"), (0, u "Ljdk/internal/misc/Unsafe;"), (8, u "BIG_ENDIAN"), (0, u "Z"), (8, u "LOG2_BYTE_BIT_SIZE"), (4, u "LOG2_ARRAY_INT_INDEX_SCALE"), (54, u "JLA"), (0, u "Ljdk/internal/access/JavaLangAccess;"), (11, u "LOG2_ARRAY_BOOLEAN_INDEX_SCALE"), (9, u "LOG2_ARRAY_BYTE_INDEX_SCALE"), (5, u "LOG2_ARRAY_CHAR_INDEX_SCALE"), (5, u "LOG2_ARRAY_SHORT_INDEX_SCALE"), (18, u "LOG2_ARRAY_FLOAT_INDEX_SCALE"), (24, u "LOG2_ARRAY_DOUBLE_INDEX_SCALE"), (89, u "T_BOOLEAN"), (2, u "T_CHAR"), (1, u "T_FLOAT"), (1, u "T_DOUBLE"), (1, u "T_BYTE"), (1, u "T_SHORT"), (1, u "T_INT"), (1, u "T_LONG"), (1, u "SOFT_MAX_ARRAY_LENGTH")] 83

def k12m0 : Method := { name := "<init>", desc := "()V", sig := { parameters := [], returnType := none }, accessFlags := 2, code := none }
/-- jdk/internal/util/ArraysSupport -/
def k12 : Class := { plain "jdk/internal/util/ArraysSupport" (some 0) with
  accessFlags := 33
  interfaces := #[]
  cf := some (fileOf pool12 21 #[] #[{ accessFlags := 2, nameIndex := 9, descriptorIndex := 19, attributes := #[] }] 33 16 #[] #[{ accessFlags := 24, nameIndex := 28, descriptorIndex := 29, attributes := #[] }, { accessFlags := 26, nameIndex := 38, descriptorIndex := 39, attributes := #[] }, { accessFlags := 25, nameIndex := 121, descriptorIndex := 25, attributes := #[] }, { accessFlags := 25, nameIndex := 131, descriptorIndex := 25, attributes := #[] }, { accessFlags := 25, nameIndex := 137, descriptorIndex := 25, attributes := #[] }, { accessFlags := 25, nameIndex := 143, descriptorIndex := 25, attributes := #[] }, { accessFlags := 25, nameIndex := 53, descriptorIndex := 25, attributes := #[] }, { accessFlags := 25, nameIndex := 24, descriptorIndex := 25, attributes := #[] }, { accessFlags := 25, nameIndex := 162, descriptorIndex := 25, attributes := #[] }, { accessFlags := 25, nameIndex := 187, descriptorIndex := 25, attributes := #[] }, { accessFlags := 26, nameIndex := 48, descriptorIndex := 25, attributes := #[] }, { accessFlags := 25, nameIndex := 277, descriptorIndex := 25, attributes := #[] }, { accessFlags := 25, nameIndex := 280, descriptorIndex := 25, attributes := #[] }, { accessFlags := 25, nameIndex := 282, descriptorIndex := 25, attributes := #[] }, { accessFlags := 25, nameIndex := 284, descriptorIndex := 25, attributes := #[] }, { accessFlags := 25, nameIndex := 286, descriptorIndex := 25, attributes := #[] }, { accessFlags := 25, nameIndex := 288, descriptorIndex := 25, attributes := #[] }, { accessFlags := 25, nameIndex := 290, descriptorIndex := 25, attributes := #[] }, { accessFlags := 25, nameIndex := 292, descriptorIndex := 25, attributes := #[] }, { accessFlags := 26, nameIndex := 108, descriptorIndex := 109, attributes := #[] }, { accessFlags := 25, nameIndex := 294, descriptorIndex := 25, attributes := #[] }])
  fields := #[{ name := "U", type := (.object "jdk/internal/misc/Unsafe"), accessFlags := 24, slot := 0, constantValue := 0 }, { name := "BIG_ENDIAN", type := .boolean, accessFlags := 26, slot := 1, constantValue := 0 }, { name := "LOG2_ARRAY_BOOLEAN_INDEX_SCALE", type := .int, accessFlags := 25, slot := 2, constantValue := 0 }, { name := "LOG2_ARRAY_BYTE_INDEX_SCALE", type := .int, accessFlags := 25, slot := 3, constantValue := 0 }, { name := "LOG2_ARRAY_CHAR_INDEX_SCALE", type := .int, accessFlags := 25, slot := 4, constantValue := 0 }, { name := "LOG2_ARRAY_SHORT_INDEX_SCALE", type := .int, accessFlags := 25, slot := 5, constantValue := 0 }, { name := "LOG2_ARRAY_INT_INDEX_SCALE", type := .int, accessFlags := 25, slot := 6, constantValue := 0 }, { name := "LOG2_ARRAY_LONG_INDEX_SCALE", type := .int, accessFlags := 25, slot := 7, constantValue := 0 }, { name := "LOG2_ARRAY_FLOAT_INDEX_SCALE", type := .int, accessFlags := 25, slot := 8, constantValue := 0 }, { name := "LOG2_ARRAY_DOUBLE_INDEX_SCALE", type := .int, accessFlags := 25, slot := 9, constantValue := 0 }, { name := "LOG2_BYTE_BIT_SIZE", type := .int, accessFlags := 26, slot := 10, constantValue := 0 }, { name := "T_BOOLEAN", type := .int, accessFlags := 25, slot := 11, constantValue := 0 }, { name := "T_CHAR", type := .int, accessFlags := 25, slot := 12, constantValue := 0 }, { name := "T_FLOAT", type := .int, accessFlags := 25, slot := 13, constantValue := 0 }, { name := "T_DOUBLE", type := .int, accessFlags := 25, slot := 14, constantValue := 0 }, { name := "T_BYTE", type := .int, accessFlags := 25, slot := 15, constantValue := 0 }, { name := "T_SHORT", type := .int, accessFlags := 25, slot := 16, constantValue := 0 }, { name := "T_INT", type := .int, accessFlags := 25, slot := 17, constantValue := 0 }, { name := "T_LONG", type := .int, accessFlags := 25, slot := 18, constantValue := 0 }, { name := "JLA", type := (.object "jdk/internal/access/JavaLangAccess"), accessFlags := 26, slot := 19, constantValue := 0 }, { name := "SOFT_MAX_ARRAY_LENGTH", type := .int, accessFlags := 25, slot := 20, constantValue := 0 }]
  methods := #[k12m0]
  instanceTypes := #[]
  staticTypes := #[(.object "jdk/internal/misc/Unsafe"), .boolean, .int, .int, .int, .int, .int, .int, .int, .int, .int, .int, .int, .int, .int, .int, .int, .int, .int, (.object "jdk/internal/access/JavaLangAccess"), .int]
  resolved := Array.replicate 378 none
  statics := none }

def pool13 : Array CpInfo := pool [(1, u "java/lang/Cloneable"), (0, .class_ 1), (0, u "java/lang/Object"), (0, .class_ 3)] 3

/-- java/lang/Cloneable -/
def k13 : Class := { plain "java/lang/Cloneable" (some 0) with
  accessFlags := 1537
  interfaces := #[]
  cf := some (fileOf pool13 2 #[] #[] 1537 4 #[] #[])
  fields := #[]
  methods := #[]
  instanceTypes := #[]
  staticTypes := #[]
  resolved := Array.replicate 8 none
  statics := none }

/-- the primitive byte -/
def k14 : Class := { plain "byte" none with kind := .primitive 'B', accessFlags := 0x411 }
/-- [B -/
def k15 : Class := { plain "[B" (some 0) with kind := .array 14 .byte, interfaces := #[13, 2], accessFlags := 1041 }

/-- the primitive char -/
def k16 : Class := { plain "char" none with kind := .primitive 'C', accessFlags := 0x411 }
/-- [C -/
def k17 : Class := { plain "[C" (some 0) with kind := .array 16 .char, interfaces := #[13, 2], accessFlags := 1041 }

/-- the primitive int -/
def k18 : Class := { plain "int" none with kind := .primitive 'I', accessFlags := 0x411 }
/-- [I -/
def k19 : Class := { plain "[I" (some 0) with kind := .array 18 .int, interfaces := #[13, 2], accessFlags := 1041 }

def heap : Heap := #[{ cls := 7, slots := #[.long 0, .int 1, .null, .int 0, .null, .int 0, .int 0], vm := .statics 7 },
  { cls := 11, slots := #[.null, .null, .null], vm := .statics 11 }]
def classes : Array Class := #[k0, k1, k2, k3, k4, k5, k6, k7, k8, k9, k10, k11, k12, k13, k14, k15, k16, k17, k18, k19]
def interned : List (Array UInt16 × Addr) := []
def slotsUsed : Nat := 10
def theMethod : MethodId := ⟨1, 1⟩
def args0 : Array Value := #[.int 9, .int 7, .int 7, .int 7, .int 7]
def aboutOver (below : List Frame) : State where
  vm := { classes := classes, interned := interned.toArray }
  heap := heap
  slotsUsed := slotsUsed
  threads := #[{ frames := .invoking theMethod args0 :: below }]
def below0 : List Frame := [.native { method := ⟨0, 0⟩, args := #[] }]
def about1 : State := aboutOver below0
def p0 : Program := .bare "" "" ""
def e0 : Env := launch0.env 0 0 0
theorem w_frames : about1.frames = Frame.invoking theMethod args0 :: below0 := rfl
set_option maxRecDepth 65536 in
theorem w_args : argsFit about1.vm theMethod args0 = true := by decide +kernel
set_option maxRecDepth 65536 in
theorem w_heap : heapFits about1 = true := by decide +kernel
set_option maxRecDepth 65536 in
theorem w_runnable : about1.curStatus? = some .runnable := by decide +kernel
set_option maxRecDepth 65536 in
theorem w_alone : about1.alone = true := by decide +kernel
set_option maxRecDepth 65536 in
theorem w_named : about1.methodNamed? x = some theMethod := by decide +kernel
set_option maxRecDepth 65536 in
theorem w_hears : about1.hears theMethod below0 = true := by decide +kernel
set_option maxRecDepth 65536 in
theorem w_ripe : about1.ripe theMethod args0 below0 = true := by decide +kernel
theorem w_running : about1.status = .running := rfl
set_option maxRecDepth 65536 in
theorem w_room : about1.hasRoom e0.platform room_1 = true :=
  launch0.hasRoom_least _ room_1 (by decide +kernel) (by decide +kernel) (by decide +kernel) (by decide +kernel) (by decide +kernel) (by decide +kernel)
theorem allAtoms_all (ts : List Jvm.Cond) (a : Array Jvm.Value) (st : Jvm.State) : (allAtoms ts).before a st = ts.all (fun c => c.before a st) := by
  induction ts with
  | nil => rfl
  | cons c t ih =>
    show (Jvm.Cond.and c (allAtoms t)).before a st = _
    rw [Jvm.Cond.before_and, ih, List.all_cons]
def words1 : List Jvm.Cond := Jvm.Cond.code x code maxLocals ret :: tables_1
/-- a 'code' word, met by the world's own term for the bytes: nothing is compared byte by byte -/
theorem code_word {y : MethodName} {bytes : ByteArray} {mx : Nat} {rt : Option FieldType} {a : Array Value} {s : State} {m : MethodId} {meth : Method} {c : Code} (h1 : s.methodNamed? y = some m) (h2 : s.vm.method? m = some meth) (h3 : meth.code = some c) (h4 : c.code = bytes)
    (h5 : (c.maxLocals == mx && c.exceptionTable.isEmpty && decide (c.maxStack ≤ mostOperands) && decide (meth.sig.returnType = rt) && !meth.locks && decide (parseMethodDescriptor y.desc = some meth.sig)) = true) : (Jvm.Cond.code y bytes mx rt).before a s = true := by
  simp only [Bool.and_eq_true, beq_iff_eq, Bool.not_eq_true', decide_eq_true_eq] at h5
  obtain ⟨⟨⟨⟨⟨g1, g2⟩, g3⟩, g4⟩, g5⟩, g6⟩ := h5
  simp [Cond.before, Cond.holds, Cond.value, h1, h2, h3, h4, g1, g2, g3, g4, g5, g6]
def isCode : Jvm.Cond → Bool
  | .code _ _ _ _ => true
  | _ => false
theorem all_split {L : List Jvm.Cond} {P : Jvm.Cond → Bool} (h1 : L.all (fun c => isCode c || P c) = true) (h2 : ∀ c ∈ L.filter isCode, P c = true) : L.all P = true := by
  refine List.all_eq_true.mpr fun c hc => ?_
  have h := List.all_eq_true.mp h1 c hc
  rcases Bool.eq_false_or_eq_true (isCode c) with hi | hi
  · exact h2 c (List.mem_filter.mpr ⟨hc, hi⟩)
  · simpa [hi] using h
set_option maxRecDepth 65536 in
theorem w_c0 : (Jvm.Cond.code x code maxLocals ret).before args0 about1 = true := code_word (m := ⟨1, 1⟩) (meth := k1m1) (c := k1c1) (by decide +kernel) rfl rfl rfl (by decide +kernel)
set_option maxRecDepth 65536 in
theorem w_c1 : (Jvm.Cond.code ({ cls := "com/example/affordance/affordance/MediaTypes", name := "contentType", desc := "(Ljava/lang/String;)Ljava/lang/String;" } : Jvm.MethodName) prog_19_method_2_code (1 : Nat) (Option.some (Jvm.ClassFile.FieldType.object "java/lang/String"))).before args0 about1 = true := code_word (m := ⟨8, 1⟩) (meth := k8m1) (c := k8c1) (by decide +kernel) rfl rfl rfl (by decide +kernel)
set_option maxRecDepth 65536 in
theorem w_c2 : (Jvm.Cond.code ({ cls := "java/lang/String", name := "equals", desc := "(Ljava/lang/Object;)Z" } : Jvm.MethodName) jdk_42_method_66_code (3 : Nat) (Option.some Jvm.ClassFile.FieldType.boolean)).before args0 about1 = true := code_word (m := ⟨7, 2⟩) (meth := k7m2) (c := k7c2) (by decide +kernel) rfl rfl rfl (by decide +kernel)
set_option maxRecDepth 65536 in
theorem w_c3 : (Jvm.Cond.code ({ cls := "java/lang/StringLatin1", name := "equals", desc := "([B[B)Z" } : Jvm.MethodName) jdk_43_method_13_code (3 : Nat) (Option.some Jvm.ClassFile.FieldType.boolean)).before args0 about1 = true := code_word (m := ⟨9, 1⟩) (meth := k9m1) (c := k9c1) (by decide +kernel) rfl rfl rfl (by decide +kernel)
set_option maxRecDepth 65536 in
theorem w_c4 : (Jvm.Cond.code ({ cls := "java/lang/String", name := "<init>", desc := "([C)V" } : Jvm.MethodName) jdk_42_method_3_code (2 : Nat) (Option.none : Option Jvm.ClassFile.FieldType)).before args0 about1 = true := code_word (m := ⟨7, 1⟩) (meth := k7m1) (c := k7c1) (by decide +kernel) rfl rfl rfl (by decide +kernel)
set_option maxRecDepth 65536 in
theorem w_c5 : (Jvm.Cond.code ({ cls := "java/lang/String", name := "<init>", desc := "([CIILjava/lang/Void;)V" } : Jvm.MethodName) jdk_42_method_149_code (6 : Nat) (Option.none : Option Jvm.ClassFile.FieldType)).before args0 about1 = true := code_word (m := ⟨7, 3⟩) (meth := k7m3) (c := k7c3) (by decide +kernel) rfl rfl rfl (by decide +kernel)
set_option maxRecDepth 65536 in
theorem w_c6 : (Jvm.Cond.code ({ cls := "java/lang/Object", name := "<init>", desc := "()V" } : Jvm.MethodName) object_method_1_code (1 : Nat) (Option.none : Option Jvm.ClassFile.FieldType)).before args0 about1 = true := code_word (m := ⟨0, 0⟩) (meth := k0m0) (c := k0c0) (by decide +kernel) rfl rfl rfl (by decide +kernel)
set_option maxRecDepth 65536 in
theorem w_c7 : (Jvm.Cond.code ({ cls := "java/lang/StringUTF16", name := "compress", desc := "([CII)[B" } : Jvm.MethodName) jdk_52_method_16_code (6 : Nat) (Option.some (Jvm.ClassFile.FieldType.array Jvm.ClassFile.FieldType.byte))).before args0 about1 = true := code_word (m := ⟨10, 2⟩) (meth := k10m2) (c := k10c2) (by decide +kernel) rfl rfl rfl (by decide +kernel)
set_option maxRecDepth 65536 in
theorem w_c8 : (Jvm.Cond.code ({ cls := "java/lang/StringUTF16", name := "compress", desc := "([CI[BII)I" } : Jvm.MethodName) jdk_52_method_21_code (7 : Nat) (Option.some Jvm.ClassFile.FieldType.int)).before args0 about1 = true := code_word (m := ⟨10, 3⟩) (meth := k10m3) (c := k10c3) (by decide +kernel) rfl rfl rfl (by decide +kernel)
set_option maxRecDepth 65536 in
theorem w_c9 : (Jvm.Cond.code ({ cls := "java/lang/StringUTF16", name := "coderFromArrayLen", desc := "([BI)B" } : Jvm.MethodName) jdk_52_method_15_code (2 : Nat) (Option.some Jvm.ClassFile.FieldType.byte)).before args0 about1 = true := code_word (m := ⟨10, 1⟩) (meth := k10m1) (c := k10c1) (by decide +kernel) rfl rfl rfl (by decide +kernel)
def codes1 : List Jvm.Cond := [Jvm.Cond.code x code maxLocals ret, Jvm.Cond.code ({ cls := "com/example/affordance/affordance/MediaTypes", name := "contentType", desc := "(Ljava/lang/String;)Ljava/lang/String;" } : Jvm.MethodName) prog_19_method_2_code (1 : Nat) (Option.some (Jvm.ClassFile.FieldType.object "java/lang/String")), Jvm.Cond.code ({ cls := "java/lang/String", name := "equals", desc := "(Ljava/lang/Object;)Z" } : Jvm.MethodName) jdk_42_method_66_code (3 : Nat) (Option.some Jvm.ClassFile.FieldType.boolean), Jvm.Cond.code ({ cls := "java/lang/StringLatin1", name := "equals", desc := "([B[B)Z" } : Jvm.MethodName) jdk_43_method_13_code (3 : Nat) (Option.some Jvm.ClassFile.FieldType.boolean), Jvm.Cond.code ({ cls := "java/lang/String", name := "<init>", desc := "([C)V" } : Jvm.MethodName) jdk_42_method_3_code (2 : Nat) (Option.none : Option Jvm.ClassFile.FieldType), Jvm.Cond.code ({ cls := "java/lang/String", name := "<init>", desc := "([CIILjava/lang/Void;)V" } : Jvm.MethodName) jdk_42_method_149_code (6 : Nat) (Option.none : Option Jvm.ClassFile.FieldType), Jvm.Cond.code ({ cls := "java/lang/Object", name := "<init>", desc := "()V" } : Jvm.MethodName) object_method_1_code (1 : Nat) (Option.none : Option Jvm.ClassFile.FieldType), Jvm.Cond.code ({ cls := "java/lang/StringUTF16", name := "compress", desc := "([CII)[B" } : Jvm.MethodName) jdk_52_method_16_code (6 : Nat) (Option.some (Jvm.ClassFile.FieldType.array Jvm.ClassFile.FieldType.byte)), Jvm.Cond.code ({ cls := "java/lang/StringUTF16", name := "compress", desc := "([CI[BII)I" } : Jvm.MethodName) jdk_52_method_21_code (7 : Nat) (Option.some Jvm.ClassFile.FieldType.int), Jvm.Cond.code ({ cls := "java/lang/StringUTF16", name := "coderFromArrayLen", desc := "([BI)B" } : Jvm.MethodName) jdk_52_method_15_code (2 : Nat) (Option.some Jvm.ClassFile.FieldType.byte)]
set_option maxRecDepth 65536 in
theorem codes_eq : words1.filter isCode = codes1 := rfl
theorem w_codes : ∀ c ∈ words1.filter isCode, c.before args0 about1 = true := by
  rw [codes_eq]
  intro c hc
  simp only [codes1, List.mem_cons, List.not_mem_nil, or_false] at hc
  rcases hc with rfl | rfl | rfl | rfl | rfl | rfl | rfl | rfl | rfl | rfl
  · exact w_c0
  · exact w_c1
  · exact w_c2
  · exact w_c3
  · exact w_c4
  · exact w_c5
  · exact w_c6
  · exact w_c7
  · exact w_c8
  · exact w_c9
set_option maxRecDepth 65536 in
theorem w_t1 : (words1.take 24).all (fun c => isCode c || c.before args0 about1) = true := by decide +kernel
set_option maxRecDepth 65536 in
theorem w_t2 : ((words1.drop 24).take 24).all (fun c => isCode c || c.before args0 about1) = true := by decide +kernel
set_option maxRecDepth 65536 in
theorem w_t3 : ((words1.drop 24).drop 24).all (fun c => isCode c || c.before args0 about1) = true := by decide +kernel
theorem w_tables : (allAtoms (Jvm.Cond.code x code maxLocals ret :: tables_1)).before args0 about1 = true := by
  rw [allAtoms_all]
  show words1.all (fun c => c.before args0 about1) = true
  refine all_split ?_ w_codes
  rw [← List.take_append_drop 24 words1, List.all_append, w_t1, ← List.take_append_drop 24 (words1.drop 24), List.all_append, w_t2, w_t3]
  rfl
set_option maxRecDepth 65536 in
theorem w_rest : rest_1_c.before args0 about1 = true := by decide +kernel
set_option maxRecDepth 65536 in
theorem w_case : (Jvm.Cond.and given_1 narrow_1).before args0 about1 = true := by decide +kernel
set_option maxRecDepth 65536 in
theorem w_consts : constsHeld consts_1 about1 := Jvm.Lit.constsHeldB_iff.mp (by decide +kernel)
theorem w_applies : (headSpec (Jvm.Cond.code x code maxLocals ret :: tables_1) room_1).applies x e0.platform about1 = true :=
  (Spec.applies_iff w_frames).mpr ⟨w_running, w_runnable, w_alone, w_named, w_hears, w_ripe, w_room, w_tables⟩
theorem atStart : AtStart classFile x code maxLocals ret World_1 tables_1 room_1 Calls_1 rest_1 Pre_1 launch0 p0 e0 about1 theMethod args0 below0 :=
  ⟨lists_1, trivial, launch0.admits_env _ _ _, launch0.least_env, fairChoices_fair.cas, fairChoices_fair.clock, w_frames, w_args, w_heap, w_applies, ⟨w_consts, trivial⟩, w_rest, w_case⟩
end start1
theorem witness_1 : WitnessClaimed_1 := ⟨start1.p0, start1.e0, start1.about1, start1.theMethod, start1.args0, start1.below0, start1.atStart⟩
end Jvm.Pilot.@@N@@
