import JvmDerived
import JvmDerived.Pilot.@@N@@Statement
import JvmDerived.Pilot.@@N@@Code
set_option linter.unusedVariables false
set_option linter.unusedSimpArgs false
/- laws to paste: Road.backV, Road.lenW, Road.chN (cut by pick.py; bodies as the Statement names them) -/
namespace Jvm.Pilot.@@N@@
namespace StrChars
open Jvm Sem ClassFile Op Lib Jvm.Stand Jvm.Free.XT Jvm.Free.ALB Jvm.Free.JM Jvm.Free
open Jvm.Lib.Cold (StaticIs)
def Ch (a : Addr) (A : Cell) (U : State) : Prop := Arr .char a A U ∧ Typed .char A
theorem Ch.mv {a : Addr} {A : Cell} {U U' : State} (h : Ch a A U) (hal : U.vm.Alike U'.vm) (hh : U'.heap = U.heap) : Ch a A U' := ⟨h.1.mv hal hh, h.2⟩
theorem Ch.keep {a : Addr} {A : Cell} {U U' : State} (h : Ch a A U) (hal : U.vm.Alike U'.vm) (hk : U'.heap[a]? = some A) : Ch a A U' := ⟨h.1.keep hal hk, h.2⟩
def cv (A : Cell) (i : Nat) : Int32 := match A.slots[i]? with | some (.int x) => x | _ => 0
theorem Ch.get {a : Addr} {A : Cell} {U : State} (h : Ch a A U) {i : Nat} (hi : i < A.slots.size) : A.slots[i]? = some (.int (cv A i)) := by
  have e := Array.getElem?_eq_getElem hi
  have f := h.2 i _ e
  unfold cv; rw [e]
  generalize A.slots[i] = v at f
  cases v <;> simp [fits] at f ⊢
def lo8 (x : Int32) : Int32 := x.toInt8.toInt32
theorem fits_lo8 (y : Int32) : fits .byte (.int (lo8 y)) = true := by
  have h1 := y.toInt8.le_toInt
  have h2 := y.toInt8.toInt_lt
  simp only [lo8, fits, Bool.and_eq_true, decide_eq_true_eq, Int32.le_iff_toInt_le, Int8.toInt_toInt32, show (-128 : Int32).toInt = -128 from by decide, show (127 : Int32).toInt = 127 from by decide]
  omega
def Laid (A A' : Cell) (lo hi : Nat) (f : Nat → Value) : Prop := A'.cls = A.cls ∧ A'.vm = A.vm ∧ A'.slots.size = A.slots.size ∧ ∀ i, A'.slots[i]? = if lo ≤ i ∧ i < hi then some (f i) else A.slots[i]?
theorem Laid.zero (A : Cell) (lo : Nat) (f : Nat → Value) : Laid A A lo (lo + 0) f := ⟨rfl, rfl, rfl, fun i => by rw [if_neg (by omega)]⟩
theorem Laid.step {A Ak : Cell} {lo k : Nat} {f : Nat → Value} {v : Value} (h : Laid A Ak lo k f) (hlo : lo ≤ k) (hk : k < Ak.slots.size) (hv : v = f k) : Laid A (Ak.setSlot k v) lo (k + 1) f := by
  refine ⟨h.1, h.2.1, by simpa [Cell.setSlot] using h.2.2.1, fun i => ?_⟩
  by_cases e : k = i
  · subst e; rw [Cell.slots_setSlot_self v hk, if_pos (by omega), hv]
  · rw [Cell.slots_setSlot_ne v e, h.2.2.2 i]
    by_cases q : lo ≤ i ∧ i < k
    · rw [if_pos q, if_pos (by omega)]
    · rw [if_neg q, if_neg (by omega)]
def U16 : String := "java/lang/StringUTF16"
namespace Cmp5
def yN : MethodName := ⟨"java/lang/StringUTF16", "compress", "([CI[BII)I"⟩
abbrev yB : ByteArray := jdk_52_method_21_code
theorem d0 : decode yB 0 = .ok (.iconst 0, 1) := by decide +kernel
theorem d1 : decode yB 1 = .ok (.istore 5, 2) := by decide +kernel
theorem d3 : decode yB 3 = .ok (.iload 5, 2) := by decide +kernel
theorem d5 : decode yB 5 = .ok (.iload 4, 2) := by decide +kernel
theorem d7 : decode yB 7 = .ok (.if_icmp (.ge) 37, 3) := by decide +kernel
theorem d10 : decode yB 10 = .ok (.aload_n 0, 1) := by decide +kernel
theorem d11 : decode yB 11 = .ok (.iload_n 1, 1) := by decide +kernel
theorem d12 : decode yB 12 = .ok (.caload, 1) := by decide +kernel
theorem d13 : decode yB 13 = .ok (.istore 6, 2) := by decide +kernel
theorem d15 : decode yB 15 = .ok (.iload 6, 2) := by decide +kernel
theorem d17 : decode yB 17 = .ok (.sipush 255, 3) := by decide +kernel
theorem d20 : decode yB 20 = .ok (.if_icmp (.le) 6, 3) := by decide +kernel
theorem d26 : decode yB 26 = .ok (.aload_n 2, 1) := by decide +kernel
theorem d27 : decode yB 27 = .ok (.iload_n 3, 1) := by decide +kernel
theorem d28 : decode yB 28 = .ok (.iload 6, 2) := by decide +kernel
theorem d30 : decode yB 30 = .ok (.i2b, 1) := by decide +kernel
theorem d31 : decode yB 31 = .ok (.bastore, 1) := by decide +kernel
theorem d32 : decode yB 32 = .ok (.iinc 1 1, 3) := by decide +kernel
theorem d35 : decode yB 35 = .ok (.iinc 3 1, 3) := by decide +kernel
theorem d38 : decode yB 38 = .ok (.iinc 5 1, 3) := by decide +kernel
theorem d41 : decode yB 41 = .ok (.goto (-38), 3) := by decide +kernel
theorem d44 : decode yB 44 = .ok (.iload 4, 2) := by decide +kernel
theorem d46 : decode yB 46 = .ok (.ireturn, 1) := by decide +kernel
def site : List Cond := []
def tab : Cond := tabOf yN yB 7 (some .int) site
def P (b : Addr) (A : Cell) (d : Addr) (B : Cell) (o q len : Nat) (args : Array Value) (s : State) : Prop := args = #[.ref b, .int (Int32.ofNat o), .ref d, .int (Int32.ofNat q), .int (Int32.ofNat len)] ∧ Ch b A s ∧ Arr .byte d B s ∧ b ≠ d ∧ o + len ≤ A.slots.size ∧ q + len ≤ B.slots.size ∧ ∀ i, i < len → ¬ 255 < cv A (o + i)
def E (b : Addr) (A : Cell) (d : Addr) (B : Cell) (o q len : Nat) (r : Option Value) (s u : State) : Prop := r = some (.int (Int32.ofNat len)) ∧ ∃ B', Put d B' s u ∧ Laid B B' q (q + len) (fun j => Value.int (lo8 (cv A (o + (j - q)))))
theorem law (l : Launch) (b : Addr) (A : Cell) (d : Addr) (B : Cell) (o q len : Nat) : Law l yN 5 5 0 0 yB 7 (some .int) site (P b A d B o q len) (E b A d B o q len) (copyLocs d q len) 0 0 := by
  refine Law.of_walk (plainFor_of_name (by decide +kernel)) (by decide +kernel) (by decide +kernel) (by decide) (fun _ _ h => by rw [h.1]; rfl) (fun _ U U' hal hh h => ⟨h.1, h.2.1.mv hal hh, h.2.2.1.mv hal hh, h.2.2.2⟩) (fun r U U' V V' h1 hal h2 h => ⟨h.1, h.2.elim fun B' q => ⟨B', q.1.mv h1 h2, q.2⟩⟩) ?_
  intro p e s m args below meth c s₁ X0 hexec hbytes hml hret hlk hnm hown hh0 W hP
  obtain ⟨rfl, hA, hB, hne, l1, l2, hp⟩ := hP
  have c1 : Steps p.tables e below (s₁.setTop (entryFrame m #[.ref b, .int (Int32.ofNat o), .ref d, .int (Int32.ofNat q), .int (Int32.ofNat len)] 7)) (s₁.setTop (mkF m 0 #[.val (.ref b), .val (.int (Int32.ofNat o)), .val (.ref d), .val (.int (Int32.ofNat q)), .val (.int (Int32.ofNat len)), .unset, .unset] [])) := entry rfl
  have hA0 := hA.1.mv X0.warmed.alike hh0
  have hB0 := hB.mv X0.warmed.alike hh0
  have a31 := hA.1.2.2.2
  have c2 : Steps p.tables e below (s₁.setTop (entryFrame m #[.ref b, .int (Int32.ofNat o), .ref d, .int (Int32.ofNat q), .int (Int32.ofNat len)] 7)) (s₁.setTop (mkF m 3 #[.val (.ref b), .val (.int (Int32.ofNat o)), .val (.ref d), .val (.int (Int32.ofNat q)), .val (.int (Int32.ofNat len)), .val (.int 0), .unset] [])) := c1.trans (by
    refine iconstV X0.here hexec rfl 0 (hb hbytes d0) (by decide) ?_
    refine XS.istore X0.here hexec rfl (hb hbytes d1) rfl rfl ?_
    exact Steps.refl _)
  have loop : ∀ (r i : Nat), i + r = len → ∀ (z : Slot), (z = .unset ∨ ∃ w, z = .val w ∧ w.category = 1) → ∀ (Tl : State) (Bk : Cell), Stand p l e { frames := 0, locals := 0, cells := 0, slots := 0 } s m #[.ref b, .int (Int32.ofNat o), .ref d, .int (Int32.ofNat q), .int (Int32.ofNat len)] below meth c Tl ([] ++ copyLocs d q i) 0 0 → Put d Bk s₁ Tl → Laid B Bk q (q + i) (fun j => Value.int (lo8 (cv A (o + (j - q))))) →
      Steps p.tables e below (s₁.setTop (entryFrame m #[.ref b, .int (Int32.ofNat o), .ref d, .int (Int32.ofNat q), .int (Int32.ofNat len)] 7)) (Tl.setTop (mkF m 3 #[.val (.ref b), .val (.int (Int32.ofNat (o + i))), .val (.ref d), .val (.int (Int32.ofNat (q + i))), .val (.int (Int32.ofNat len)), .val (.int (Int32.ofNat i)), z] [])) → ∃ (T' : State) (B' : Cell) (z' : Slot), Stand p l e { frames := 0, locals := 0, cells := 0, slots := 0 } s m #[.ref b, .int (Int32.ofNat o), .ref d, .int (Int32.ofNat q), .int (Int32.ofNat len)] below meth c T' ([] ++ copyLocs d q len) 0 0 ∧ Put d B' s₁ T' ∧ Laid B B' q (q + len) (fun j => Value.int (lo8 (cv A (o + (j - q))))) ∧
      Steps p.tables e below (s₁.setTop (entryFrame m #[.ref b, .int (Int32.ofNat o), .ref d, .int (Int32.ofNat q), .int (Int32.ofNat len)] 7)) (T'.setTop (mkF m 3 #[.val (.ref b), .val (.int (Int32.ofNat (o + len))), .val (.ref d), .val (.int (Int32.ofNat (q + len))), .val (.int (Int32.ofNat len)), .val (.int (Int32.ofNat len)), z'] [])) := by
    intro r
    induction r with
    | zero =>
      intro i hi z hz Tl Bk Xl pl fl cl
      have hil : i = len := by omega
      rw [hil] at Xl fl cl
      exact ⟨Tl, Bk, z, Xl, pl, fl, cl⟩
    | succ r ih =>
      intro i hi z hz Tl Bk Xl pl fl cl
      have all := X0.warmed.alike.symm.trans Xl.warmed.alike
      have hAl := hA0.keep all (pl.other hne hA0.1)
      have hBk := hB0.like all pl.1 fl.1 fl.2.1 fl.2.2.1
      have hlt : q + i < Bk.slots.size := by rw [fl.2.2.1]; omega
      have c3 : Steps p.tables e below (s₁.setTop (entryFrame m #[.ref b, .int (Int32.ofNat o), .ref d, .int (Int32.ofNat q), .int (Int32.ofNat len)] 7)) (Tl.setTop (mkF m 12 #[.val (.ref b), .val (.int (Int32.ofNat (o + i))), .val (.ref d), .val (.int (Int32.ofNat (q + i))), .val (.int (Int32.ofNat len)), .val (.int (Int32.ofNat i)), z] [.int (Int32.ofNat (o + i)), .ref b])) := cl.trans (by
        refine XS.iload Xl.here hexec rfl (hb hbytes d3) rfl ?_
        refine XS.iload Xl.here hexec rfl (hb hbytes d5) rfl ?_
        refine XS.icmpNo Xl.here hexec rfl (hb hbytes d7) rfl (ii_ge_f (lt32 (by omega) (by omega))) ?_
        refine XS.aloadN Xl.here hexec rfl (hb hbytes d10) rfl rfl ?_
        refine XS.iloadN Xl.here hexec rfl (hb hbytes d11) rfl ?_
        exact Steps.refl _)
      have c4 : Steps p.tables e below (s₁.setTop (entryFrame m #[.ref b, .int (Int32.ofNat o), .ref d, .int (Int32.ofNat q), .int (Int32.ofNat len)] 7)) (Tl.setTop (mkF m 13 #[.val (.ref b), .val (.int (Int32.ofNat (o + i))), .val (.ref d), .val (.int (Int32.ofNat (q + i))), .val (.int (Int32.ofNat len)), .val (.int (Int32.ofNat i)), z] [.int (cv A (o + i))])) := c3.trans (by
        refine Xl.aget hexec hAl rfl (hA.get (i := o + i) (by omega)) rfl rfl (hb hbytes d12) ?_
        exact Steps.refl _)
      have c5 : Steps p.tables e below (s₁.setTop (entryFrame m #[.ref b, .int (Int32.ofNat o), .ref d, .int (Int32.ofNat q), .int (Int32.ofNat len)] 7)) (Tl.setTop (mkF m 15 #[.val (.ref b), .val (.int (Int32.ofNat (o + i))), .val (.ref d), .val (.int (Int32.ofNat (q + i))), .val (.int (Int32.ofNat len)), .val (.int (Int32.ofNat i)), .val (.int (cv A (o + i)))] [])) := c4.trans (by
        refine XS.istoreS Xl.here hexec rfl (hb hbytes d13) rfl rfl hz ?_
        exact Steps.refl _)
      have c6 : Steps p.tables e below (s₁.setTop (entryFrame m #[.ref b, .int (Int32.ofNat o), .ref d, .int (Int32.ofNat q), .int (Int32.ofNat len)] 7)) (Tl.setTop (mkF m 31 #[.val (.ref b), .val (.int (Int32.ofNat (o + i))), .val (.ref d), .val (.int (Int32.ofNat (q + i))), .val (.int (Int32.ofNat len)), .val (.int (Int32.ofNat i)), .val (.int (cv A (o + i)))] [.int (lo8 (cv A (o + i))), .int (Int32.ofNat (q + i)), .ref d])) := c5.trans (by
        refine XS.iload Xl.here hexec rfl (hb hbytes d15) rfl ?_
        refine sipushV Xl.here hexec rfl 255 (hb hbytes d17) (by decide) ?_
        refine XS.icmpYes Xl.here hexec rfl (pc0 := 20) rfl (hb hbytes d20) rfl (ii_le_t (hp i (by omega))) (by decide) rfl ?_
        refine XS.aloadN Xl.here hexec rfl (hb hbytes d26) rfl rfl ?_
        refine XS.iloadN Xl.here hexec rfl (hb hbytes d27) rfl ?_
        refine XS.iload Xl.here hexec rfl (hb hbytes d28) rfl ?_
        refine i2b Xl.here hexec rfl (hb hbytes d30) rfl ?_
        exact Steps.refl _)
      obtain ⟨T7, X7, p7, st7⟩ := Xl.aput hexec hBk rfl hlt rfl (fits_lo8 (cv A (o + i))) (g := (mkF m 31 #[.val (.ref b), .val (.int (Int32.ofNat (o + i))), .val (.ref d), .val (.int (Int32.ofNat (q + i))), .val (.int (Int32.ofNat len)), .val (.int (Int32.ofNat i)), .val (.int (cv A (o + i)))] [.int (lo8 (cv A (o + i))), .int (Int32.ofNat (q + i)), .ref d])) rfl (rest := []) rfl (hb hbytes d31)
      have c8 : Steps p.tables e below (s₁.setTop (entryFrame m #[.ref b, .int (Int32.ofNat o), .ref d, .int (Int32.ofNat q), .int (Int32.ofNat len)] 7)) (T7.setTop (mkF m 32 #[.val (.ref b), .val (.int (Int32.ofNat (o + i))), .val (.ref d), .val (.int (Int32.ofNat (q + i))), .val (.int (Int32.ofNat len)), .val (.int (Int32.ofNat i)), .val (.int (cv A (o + i)))] [])) := c6.trans (st7 _ (Steps.refl _))
      have c9 : Steps p.tables e below (s₁.setTop (entryFrame m #[.ref b, .int (Int32.ofNat o), .ref d, .int (Int32.ofNat q), .int (Int32.ofNat len)] 7)) (T7.setTop (mkF m 3 #[.val (.ref b), .val (.int (Int32.ofNat (o + i) + 1)), .val (.ref d), .val (.int (Int32.ofNat (q + i) + 1)), .val (.int (Int32.ofNat len)), .val (.int (Int32.ofNat i + 1)), .val (.int (cv A (o + i)))] [])) := c8.trans (by
        refine iincV X7.here hexec rfl 1 (hb hbytes d32) (by decide) rfl rfl ?_
        refine iincV X7.here hexec rfl 1 (hb hbytes d35) (by decide) rfl rfl ?_
        refine iincV X7.here hexec rfl 1 (hb hbytes d38) (by decide) rfl rfl ?_
        refine XS.goto X7.here hexec rfl (pc0 := 41) rfl (hb hbytes d41) (by decide) rfl ?_
        exact Steps.refl _)
      have c10 : Steps p.tables e below (s₁.setTop (entryFrame m #[.ref b, .int (Int32.ofNat o), .ref d, .int (Int32.ofNat q), .int (Int32.ofNat len)] 7)) (T7.setTop (mkF m 3 #[.val (.ref b), .val (.int (Int32.ofNat (o + (i + 1)))), .val (.ref d), .val (.int (Int32.ofNat (q + (i + 1)))), .val (.int (Int32.ofNat len)), .val (.int (Int32.ofNat (i + 1))), .val (.int (cv A (o + i)))] [])) := by
        have := c9
        rw [succ32, succ32, succ32] at this
        exact this
      exact ih (i + 1) (by omega) _ (Or.inr ⟨_, rfl, rfl⟩) T7 _ (by rw [copyLocs_step, ← List.append_assoc]; exact X7) (pl.trans p7) (fl.step (by omega) hlt (by simp)) c10
  obtain ⟨T9, B9, z9, X9, p9, f9, g9⟩ := loop len 0 (by omega) .unset (Or.inl rfl) s₁ B (by simpa [copyLocs] using X0) ⟨hB0.1, fun _ _ => rfl, rfl⟩ (Laid.zero _ _ _) c2
  have c11 : Steps p.tables e below (s₁.setTop (entryFrame m #[.ref b, .int (Int32.ofNat o), .ref d, .int (Int32.ofNat q), .int (Int32.ofNat len)] 7)) (T9.setTop (mkF m 46 #[.val (.ref b), .val (.int (Int32.ofNat (o + len))), .val (.ref d), .val (.int (Int32.ofNat (q + len))), .val (.int (Int32.ofNat len)), .val (.int (Int32.ofNat len)), z9] [.int (Int32.ofNat len)])) := g9.trans (by
    refine XS.iload X9.here hexec rfl (hb hbytes d3) rfl ?_
    refine XS.iload X9.here hexec rfl (hb hbytes d5) rfl ?_
    refine XS.icmpYes X9.here hexec rfl (pc0 := 7) rfl (hb hbytes d7) rfl (ii_ge_t (nlt32 (by omega) (Nat.le_refl _))) (by decide) rfl ?_
    refine XS.iload X9.here hexec rfl (hb hbytes d44) rfl ?_
    exact Steps.refl _)
  exact ⟨T9, some (.int (Int32.ofNat len)), _, _, _, X9, by simp, rfl, rfl, (fun h => by cases h), ⟨rfl, B9, p9.from hh0, f9⟩, fun fs hl => c11.trans (X9.ireturnOut hexec hret rfl (Or.inl rfl) (hb hbytes d46) hl)⟩
end Cmp5
namespace Cmp3
def yN : MethodName := ⟨"java/lang/StringUTF16", "compress", "([CII)[B"⟩
abbrev yB : ByteArray := jdk_52_method_16_code
theorem d0 : decode yB 0 = .ok (.iload_n 2, 1) := by decide +kernel
theorem d1 : decode yB 1 = .ok (.newarray .byte, 2) := by decide +kernel
theorem d3 : decode yB 3 = .ok (.astore_n 3, 1) := by decide +kernel
theorem d4 : decode yB 4 = .ok (.aload_n 0, 1) := by decide +kernel
theorem d5 : decode yB 5 = .ok (.iload_n 1, 1) := by decide +kernel
theorem d6 : decode yB 6 = .ok (.aload_n 3, 1) := by decide +kernel
theorem d7 : decode yB 7 = .ok (.iconst 0, 1) := by decide +kernel
theorem d8 : decode yB 8 = .ok (.iload_n 2, 1) := by decide +kernel
theorem d9 : decode yB 9 = .ok (.invokestatic 115, 3) := by decide +kernel
theorem d12 : decode yB 12 = .ok (.istore 4, 2) := by decide +kernel
theorem d14 : decode yB 14 = .ok (.iload 4, 2) := by decide +kernel
theorem d16 : decode yB 16 = .ok (.iload_n 2, 1) := by decide +kernel
theorem d17 : decode yB 17 = .ok (.if_icmp (.eq) 40, 3) := by decide +kernel
theorem d57 : decode yB 57 = .ok (.aload_n 3, 1) := by decide +kernel
theorem d58 : decode yB 58 = .ok (.areturn, 1) := by decide +kernel
def site : List Cond := [.arrayClass .byte, Cmp5.tab] ++ staticW U16 115 Cmp5.yN
def tab : Cond := tabOf yN yB 6 (some (.array .byte)) site
def P (b : Addr) (A : Cell) (o len : Nat) (args : Array Value) (s : State) : Prop := args = #[.ref b, .int (Int32.ofNat o), .int (Int32.ofNat len)] ∧ Ch b A s ∧ o + len ≤ A.slots.size ∧ len ≤ 536870912 ∧ ∀ i, i < len → ¬ 255 < cv A (o + i)
def E (b : Addr) (A : Cell) (o len : Nat) (r : Option Value) (s u : State) : Prop := NewArr .byte "[B" len (fun j => .int (lo8 (cv A (o + j)))) r s u ∧ u.heap.size = s.heap.size + 1
theorem law (l : Launch) (b : Addr) (A : Cell) (o len : Nat) : Law l yN 3 3 1 18 yB 6 (some (.array .byte)) site (P b A o len) (E b A o len) [] 1 len := by
  refine Law.of_walk (plainFor_of_name (by decide +kernel)) (by decide +kernel) (by decide +kernel) (by decide) (fun _ _ h => by rw [h.1]; rfl) (fun _ U U' hal hh h => ⟨h.1, h.2.1.mv hal hh, h.2.2⟩) (fun r U U' V V' h1 hal h2 h => ⟨NewArr.mv r U U' V V' h1 hal h2 h.1, by rw [h1, h2]; exact h.2⟩) ?_
  intro p e s m args below meth c s₁ X0 hexec hbytes hml hret hlk hnm hown hh0 W hP
  obtain ⟨rfl, hA, l1, l2, hp⟩ := hP
  have a31 := hA.1.2.2.2
  have c1 : Steps p.tables e below (s₁.setTop (entryFrame m #[.ref b, .int (Int32.ofNat o), .int (Int32.ofNat len)] 6)) (s₁.setTop (mkF m 0 #[.val (.ref b), .val (.int (Int32.ofNat o)), .val (.int (Int32.ofNat len)), .unset, .unset, .unset] [])) := entry rfl
  have c2 : Steps p.tables e below (s₁.setTop (entryFrame m #[.ref b, .int (Int32.ofNat o), .int (Int32.ofNat len)] 6)) (s₁.setTop (mkF m 1 #[.val (.ref b), .val (.int (Int32.ofNat o)), .val (.int (Int32.ofNat len)), .unset, .unset, .unset] [.int (Int32.ofNat len)])) := c1.trans (by
    refine XS.iloadN X0.here hexec rfl (hb hbytes d0) rfl ?_
    exact Steps.refl _)
  obtain ⟨T3, B3, X3, ba3, bs3, bv3, bh3, bf3, st3⟩ := X0.anew hexec (atype := .byte) (wk W (.arrayClass .byte)) rfl (by show len * 1 ≤ _; omega) (by omega) (g := (mkF m 1 #[.val (.ref b), .val (.int (Int32.ofNat o)), .val (.int (Int32.ofNat len)), .unset, .unset, .unset] [.int (Int32.ofNat len)])) rfl (hb hbytes d1) (rest := []) rfl (Nat.le_refl _) (by show 0 + len ≤ len; omega)
  rw [hh0] at ba3 st3
  have kp3 : XT.Kept s T3 := (XT.Kept.of_eq hh0).push bh3
  have hA3 := hA.keep X3.warmed.alike (kp3 _ _ hA.1.1)
  have hne : b ≠ s.heap.size := hA.1.ne
  have c4 : Steps p.tables e below (s₁.setTop (entryFrame m #[.ref b, .int (Int32.ofNat o), .int (Int32.ofNat len)] 6)) (T3.setTop (mkF m 3 #[.val (.ref b), .val (.int (Int32.ofNat o)), .val (.int (Int32.ofNat len)), .unset, .unset, .unset] [.ref s.heap.size])) := c2.trans (st3 _ (Steps.refl _))
  have c5 : Steps p.tables e below (s₁.setTop (entryFrame m #[.ref b, .int (Int32.ofNat o), .int (Int32.ofNat len)] 6)) (T3.setTop (mkF m 9 #[.val (.ref b), .val (.int (Int32.ofNat o)), .val (.int (Int32.ofNat len)), .val (.ref s.heap.size), .unset, .unset] [.int (Int32.ofNat len), .int 0, .ref s.heap.size, .int (Int32.ofNat o), .ref b])) := c4.trans (by
    refine XS.astoreN X3.here hexec rfl (hb hbytes d3) rfl rfl rfl ?_
    refine XS.aloadN X3.here hexec rfl (hb hbytes d4) rfl rfl ?_
    refine XS.iloadN X3.here hexec rfl (hb hbytes d5) rfl ?_
    refine XS.aloadN X3.here hexec rfl (hb hbytes d6) rfl rfl ?_
    refine iconstV X3.here hexec rfl 0 (hb hbytes d7) (by decide) ?_
    refine XS.iloadN X3.here hexec rfl (hb hbytes d8) rfl ?_
    exact Steps.refl _)
  obtain ⟨v6, T6, X6, E6, g6⟩ := X3.callS hexec (Cmp5.law l b A s.heap.size B3 o 0 len) hown (wks W (staticW U16 115 Cmp5.yN)) (wk W Cmp5.tab) (W := 0) (Nat.le_of_ble_eq_true rfl) (Nat.le_of_ble_eq_true rfl) (Nat.le_refl _) (by show 0 + len + 0 ≤ len; omega) (g := (mkF m 9 #[.val (.ref b), .val (.int (Int32.ofNat o)), .val (.int (Int32.ofNat len)), .val (.ref s.heap.size), .unset, .unset] [.int (Int32.ofNat len), .int (Int32.ofNat 0), .ref s.heap.size, .int (Int32.ofNat o), .ref b])) rfl (by rw [hml]; rfl) c5 (argsL := [.ref b, .int (Int32.ofNat o), .ref s.heap.size, .int (Int32.ofNat 0), .int (Int32.ofNat len)]) (rest := []) rfl rfl (by show 2 * 0 + 0 ≤ _; decide) (hb hbytes d9) (⟨rfl, hA3, ba3, hne, l1, by rw [bs3]; simp, hp⟩)
  obtain ⟨rfl, B6, p6, f6⟩ := E6
  have c7 : Steps p.tables e below (s₁.setTop (entryFrame m #[.ref b, .int (Int32.ofNat o), .int (Int32.ofNat len)] 6)) (T6.setTop (mkF m 12 #[.val (.ref b), .val (.int (Int32.ofNat o)), .val (.int (Int32.ofNat len)), .val (.ref s.heap.size), .unset, .unset] [.int (Int32.ofNat len)])) := g6
  have c8 : Steps p.tables e below (s₁.setTop (entryFrame m #[.ref b, .int (Int32.ofNat o), .int (Int32.ofNat len)] 6)) (T6.setTop (mkF m 58 #[.val (.ref b), .val (.int (Int32.ofNat o)), .val (.int (Int32.ofNat len)), .val (.ref s.heap.size), .val (.int (Int32.ofNat len)), .unset] [.ref s.heap.size])) := c7.trans (by
    refine XS.istore X6.here hexec rfl (hb hbytes d12) rfl rfl ?_
    refine XS.iload X6.here hexec rfl (hb hbytes d14) rfl ?_
    refine XS.iloadN X6.here hexec rfl (hb hbytes d16) rfl ?_
    refine XS.icmpYes X6.here hexec rfl (pc0 := 17) rfl (hb hbytes d17) rfl (ii_eq_t rfl) (by decide) rfl ?_
    refine XS.aloadN X6.here hexec rfl (hb hbytes d57) rfl rfl ?_
    exact Steps.refl _)
  have X8 := X6.wide (L' := []) (cells' := 1) (slots' := len) (fun x hx hlt => by
    simp only [List.nil_append, copyLocs, List.mem_map, List.mem_range] at hx
    obtain ⟨i, -, rfl⟩ := hx
    exact absurd hlt (Nat.lt_irrefl _)) (Nat.le_refl _) (by omega)
  exact ⟨T6, some (.ref s.heap.size), _, _, _, X8, rfl, rfl, rfl, (fun h => by cases h), ⟨⟨rfl, B6, ba3.like (X3.warmed.alike.symm.trans X6.warmed.alike) p6.1 f6.1 f6.2.1 f6.2.2.1, f6.2.1.trans bv3, by rw [X6.warmed.alike.findClass, f6.1]; exact bf3, by rw [f6.2.2.1, bs3]; simp, fun j hj => by rw [f6.2.2.2 j, if_pos (by omega)]; rfl, kp3.put p6 (Nat.le_refl _)⟩, by rw [p6.2.2, bh3, hh0]; simp⟩, fun fs hl => c8.trans (X8.areturnOut hexec rfl hret rfl (hb hbytes d58) hl)⟩
end Cmp3
namespace CodL
def yN : MethodName := ⟨"java/lang/StringUTF16", "coderFromArrayLen", "([BI)B"⟩
abbrev yB : ByteArray := jdk_52_method_15_code
theorem d0 : decode yB 0 = .ok (.iload_n 1, 1) := by decide +kernel
theorem d1 : decode yB 1 = .ok (.aload_n 0, 1) := by decide +kernel
theorem d2 : decode yB 2 = .ok (.arraylength, 1) := by decide +kernel
theorem d3 : decode yB 3 = .ok (.isub, 1) := by decide +kernel
theorem d4 : decode yB 4 = .ok (.bipush 31, 2) := by decide +kernel
theorem d6 : decode yB 6 = .ok (.iushr, 1) := by decide +kernel
theorem d7 : decode yB 7 = .ok (.i2b, 1) := by decide +kernel
theorem d8 : decode yB 8 = .ok (.ireturn, 1) := by decide +kernel
def site : List Cond := []
def tab : Cond := tabOf yN yB 2 (some .byte) site
def P (d : Addr) (B : Cell) (args : Array Value) (s : State) : Prop := args = #[.ref d, .int (Int32.ofNat B.slots.size)] ∧ Arr .byte d B s
def E (r : Option Value) (s u : State) : Prop := XT.PureE (some (.int 0)) r s u
theorem law (l : Launch) (d : Addr) (B : Cell) : Law l yN 2 2 0 0 yB 2 (some .byte) site (P d B) E [] 0 0 := by
  refine Law.of_walk (plainFor_of_name (by decide +kernel)) (by decide +kernel) (by decide +kernel) (by decide) (fun _ _ h => by rw [h.1]; rfl) (fun _ U U' hal hh h => ⟨h.1, h.2.mv hal hh⟩) (fun r U U' V V' h1 hal h2 h => XT.PureE.mv r U U' V V' h1 hal h2 h) ?_
  intro p e s m args below meth c s₁ X0 hexec hbytes hml hret hlk hnm hown hh0 W hP
  obtain ⟨rfl, hB⟩ := hP
  have hB0 := hB.mv X0.warmed.alike hh0
  have c1 : Steps p.tables e below (s₁.setTop (entryFrame m #[.ref d, .int (Int32.ofNat B.slots.size)] 2)) (s₁.setTop (mkF m 0 #[.val (.ref d), .val (.int (Int32.ofNat B.slots.size))] [])) := entry rfl
  have c2 : Steps p.tables e below (s₁.setTop (entryFrame m #[.ref d, .int (Int32.ofNat B.slots.size)] 2)) (s₁.setTop (mkF m 2 #[.val (.ref d), .val (.int (Int32.ofNat B.slots.size))] [.ref d, .int (Int32.ofNat B.slots.size)])) := c1.trans (by
    refine XS.iloadN X0.here hexec rfl (hb hbytes d0) rfl ?_
    refine XS.aloadN X0.here hexec rfl (hb hbytes d1) rfl rfl ?_
    exact Steps.refl _)
  have c3 : Steps p.tables e below (s₁.setTop (entryFrame m #[.ref d, .int (Int32.ofNat B.slots.size)] 2)) (s₁.setTop (mkF m 8 #[.val (.ref d), .val (.int (Int32.ofNat B.slots.size))] [.int (lo8 (ushr (Int32.ofNat B.slots.size - Int32.ofNat B.slots.size) 31))])) := c2.trans (by
    refine X0.alen hexec hB0 rfl rfl (hb hbytes d2) ?_
    refine XS.isub X0.here hexec rfl (hb hbytes d3) rfl ?_
    refine bipushV X0.here hexec rfl 31 (hb hbytes d4) (by decide) ?_
    refine iushr X0.here hexec rfl (hb hbytes d6) rfl ?_
    refine i2b X0.here hexec rfl (hb hbytes d7) rfl ?_
    exact Steps.refl _)
  have e0 : lo8 (ushr (Int32.ofNat B.slots.size - Int32.ofNat B.slots.size) 31) = 0 := by rw [Int32.sub_self]; decide
  rw [e0] at c3
  exact ⟨s₁, some (.int 0), _, _, _, X0, rfl, rfl, rfl, (fun h => by cases h), ⟨rfl, hh0⟩, fun fs hl => c3.trans (X0.ireturnOut hexec hret rfl (Or.inr (Or.inr (Or.inl rfl))) (hb hbytes d8) hl)⟩
end CodL
def Got (a : Addr) (D : Cell) (fV fC : Field) (A : Cell) (o len : Nat) (r : Option Value) (s u : State) : Prop := r = none ∧ ∃ D' V : Cell, Blank "java/lang/String" a D' u ∧ Same D D' [fV.slot, fC.slot] ∧ D'.slots[fV.slot]? = some (.ref s.heap.size) ∧ D'.slots[fC.slot]? = some (.int 0) ∧ Arr .byte s.heap.size V u ∧ V.vm = .none ∧ u.vm.findClass "[B" = some V.cls ∧ V.slots.size = len ∧ (∀ j, j < len → V.slots[j]? = some (.int (lo8 (cv A (o + j))))) ∧ (∀ (y : Addr) (c : Cell), y ≠ a → s.heap[y]? = some c → u.heap[y]? = some c) ∧ u.heap.size = s.heap.size + 1
theorem Got.mv {a : Addr} {D A : Cell} {fV fC : Field} {o len : Nat} : ∀ r (U U' V V' : State), U'.heap = U.heap → V.vm.Alike V'.vm → V'.heap = V.heap → Got a D fV fC A o len r U V → Got a D fV fC A o len r U' V' :=
  fun r U U' V V' h1 hal h2 ⟨e0, D', X, a1, a2, a3, a4, a5, a6, a7, a8, a9, a10, a11⟩ => ⟨e0, D', X, a1.mv hal h2, a2, by rw [h1]; exact a3, a4, by rw [h1]; exact a5.mv hal h2, a6, by rw [hal.findClass]; exact a7, a8, a9, by rw [h1, h2]; exact a10, by rw [h1, h2]; exact a11⟩
namespace New4
def yN : MethodName := ⟨"java/lang/String", "<init>", "([CIILjava/lang/Void;)V"⟩
abbrev yB : ByteArray := jdk_42_method_149_code
theorem d0 : decode yB 0 = .ok (.aload_n 0, 1) := by decide +kernel
theorem d1 : decode yB 1 = .ok (.invokespecial 1, 3) := by decide +kernel
theorem d4 : decode yB 4 = .ok (.iload_n 3, 1) := by decide +kernel
theorem d5 : decode yB 5 = .ok (.ifCond (.ne) 22, 3) := by decide +kernel
theorem d27 : decode yB 27 = .ok (.getstatic 38, 3) := by decide +kernel
theorem d30 : decode yB 30 = .ok (.ifCond (.eq) 28, 3) := by decide +kernel
theorem d33 : decode yB 33 = .ok (.aload_n 1, 1) := by decide +kernel
theorem d34 : decode yB 34 = .ok (.iload_n 2, 1) := by decide +kernel
theorem d35 : decode yB 35 = .ok (.iload_n 3, 1) := by decide +kernel
theorem d36 : decode yB 36 = .ok (.invokestatic 177, 3) := by decide +kernel
theorem d39 : decode yB 39 = .ok (.astore 5, 2) := by decide +kernel
theorem d41 : decode yB 41 = .ok (.aload_n 0, 1) := by decide +kernel
theorem d42 : decode yB 42 = .ok (.aload 5, 2) := by decide +kernel
theorem d44 : decode yB 44 = .ok (.iload_n 3, 1) := by decide +kernel
theorem d45 : decode yB 45 = .ok (.invokestatic 47, 3) := by decide +kernel
theorem d48 : decode yB 48 = .ok (.putfield 15, 3) := by decide +kernel
theorem d51 : decode yB 51 = .ok (.aload_n 0, 1) := by decide +kernel
theorem d52 : decode yB 52 = .ok (.aload 5, 2) := by decide +kernel
theorem d54 : decode yB 54 = .ok (.putfield 9, 3) := by decide +kernel
theorem d57 : decode yB 57 = .ok (.return_, 1) := by decide +kernel
def site : List Cond := [.fieldLink "java/lang/String" 38 "java/lang/String" "COMPACT_STRINGS" "Z", Cmp3.tab, CodL.tab, .laysFinal "java/lang/String" "java/lang/String" "value" "[B", .fieldLink "java/lang/String" 9 "java/lang/String" "value" "[B", .laysFinal "java/lang/String" "java/lang/String" "coder" "B", .fieldLink "java/lang/String" 15 "java/lang/String" "coder" "B"] ++ objW "java/lang/String" 1 ++ staticW "java/lang/String" 177 Cmp3.yN ++ staticW "java/lang/String" 47 CodL.yN
def tab : Cond := tabOf yN yB 6 none site
def P (a : Addr) (D : Cell) (fV fC : Field) (b : Addr) (A : Cell) (z : Int32) (o len : Nat) (args : Array Value) (s : State) : Prop := args = #[.ref a, .ref b, .int (Int32.ofNat o), .int (Int32.ofNat len), .null] ∧ Blank "java/lang/String" a D s ∧ Found "java/lang/String" "value" "[B" fV s ∧ Found "java/lang/String" "coder" "B" fC s ∧ Ch b A s ∧ StaticIs s "java/lang/String" "COMPACT_STRINGS" "Z" (.int z) ∧ ¬ z = 0 ∧ 0 < len ∧ o + len ≤ A.slots.size ∧ len ≤ 536870912 ∧ ∀ i, i < len → ¬ 255 < cv A (o + i)
def E (a : Addr) (D : Cell) (fV fC : Field) (A : Cell) (o len : Nat) (r : Option Value) (s u : State) : Prop := Got a D fV fC A o len r s u
theorem law (l : Launch) (a : Addr) (D : Cell) (fV fC : Field) (b : Addr) (A : Cell) (z : Int32) (o len : Nat) : Law l yN 5 4 2 35 yB 6 none site (P a D fV fC b A z o len) (E a D fV fC A o len) [⟨a, fC.slot⟩, ⟨a, fV.slot⟩] 1 len := by
  refine Law.of_walk (plainFor_of_name (by decide +kernel)) (by decide +kernel) (by decide +kernel) (by decide) (fun _ _ h => by rw [h.1]; rfl) (fun _ U U' hal hh h => ⟨h.1, h.2.1.mv hal hh, h.2.2.1.al hal, h.2.2.2.1.al hal, h.2.2.2.2.1.mv hal hh, h.2.2.2.2.2.1.there hal hh, h.2.2.2.2.2.2⟩) (fun r U U' V V' h1 hal h2 h => Got.mv r U U' V V' h1 hal h2 h) ?_
  intro p e s m args below meth c s₁ X0 hexec hbytes hml hret hlk hnm hown hh0 W hP
  obtain ⟨rfl, hB, f1, f2, hA, s1, hz, l0, l1, l2, hp⟩ := hP
  have a31 := hA.1.2.2.2
  have c1 : Steps p.tables e below (s₁.setTop (entryFrame m #[.ref a, .ref b, .int (Int32.ofNat o), .int (Int32.ofNat len), .null] 6)) (s₁.setTop (mkF m 0 #[.val (.ref a), .val (.ref b), .val (.int (Int32.ofNat o)), .val (.int (Int32.ofNat len)), .val .null, .unset] [])) := entry rfl
  have c2 : Steps p.tables e below (s₁.setTop (entryFrame m #[.ref a, .ref b, .int (Int32.ofNat o), .int (Int32.ofNat len), .null] 6)) (s₁.setTop (mkF m 1 #[.val (.ref a), .val (.ref b), .val (.int (Int32.ofNat o)), .val (.int (Int32.ofNat len)), .val .null, .unset] [.ref a])) := c1.trans (by
    refine XS.aloadN X0.here hexec rfl (hb hbytes d0) rfl rfl ?_
    exact Steps.refl _)
  obtain ⟨T3, X3, q3, st3⟩ := X0.oinit hexec hown (wks W (objW "java/lang/String" 1)) (g := (mkF m 1 #[.val (.ref a), .val (.ref b), .val (.int (Int32.ofNat o)), .val (.int (Int32.ofNat len)), .val .null, .unset] [.ref a])) rfl (by rw [hml]; rfl) (rest := []) rfl (hb hbytes d1) (W := 0) (by show 2 * 0 + 0 ≤ _; decide) (Nat.le_of_ble_eq_true rfl) (Nat.le_of_ble_eq_true rfl)
  have hh3 := q3.trans hh0
  have c4 : Steps p.tables e below (s₁.setTop (entryFrame m #[.ref a, .ref b, .int (Int32.ofNat o), .int (Int32.ofNat len), .null] 6)) (T3.setTop (mkF m 27 #[.val (.ref a), .val (.ref b), .val (.int (Int32.ofNat o)), .val (.int (Int32.ofNat len)), .val .null, .unset] [])) := (c2.trans (st3 _ (Steps.refl _))).trans (by
    refine XS.iloadN X3.here hexec rfl (hb hbytes d4) rfl ?_
    refine XS.ifYes X3.here hexec rfl (pc0 := 5) rfl (hb hbytes d5) rfl (i0_ne_t (nz32 (by omega) l0)) (by decide) rfl ?_
    exact Steps.refl _)
  obtain ⟨T5, X5, q5, st5⟩ := X3.sget hexec hown (wk W (.fieldLink "java/lang/String" 38 "java/lang/String" "COMPACT_STRINGS" "Z")) s1 (fun _ _ h => by rw [hh3]; exact h) (g := (mkF m 27 #[.val (.ref a), .val (.ref b), .val (.int (Int32.ofNat o)), .val (.int (Int32.ofNat len)), .val .null, .unset] [])) rfl (hb hbytes d27)
  have hh5 := q5.trans hh3
  have c6 : Steps p.tables e below (s₁.setTop (entryFrame m #[.ref a, .ref b, .int (Int32.ofNat o), .int (Int32.ofNat len), .null] 6)) (T5.setTop (mkF m 30 #[.val (.ref a), .val (.ref b), .val (.int (Int32.ofNat o)), .val (.int (Int32.ofNat len)), .val .null, .unset] [.int z])) := c4.trans (st5 _ (Steps.refl _))
  have c7 : Steps p.tables e below (s₁.setTop (entryFrame m #[.ref a, .ref b, .int (Int32.ofNat o), .int (Int32.ofNat len), .null] 6)) (T5.setTop (mkF m 36 #[.val (.ref a), .val (.ref b), .val (.int (Int32.ofNat o)), .val (.int (Int32.ofNat len)), .val .null, .unset] [.int (Int32.ofNat len), .int (Int32.ofNat o), .ref b])) := c6.trans (by
    refine XS.ifNo X5.here hexec rfl (hb hbytes d30) rfl (i0_eq_f hz) ?_
    refine XS.aloadN X5.here hexec rfl (hb hbytes d33) rfl rfl ?_
    refine XS.iloadN X5.here hexec rfl (hb hbytes d34) rfl ?_
    refine XS.iloadN X5.here hexec rfl (hb hbytes d35) rfl ?_
    exact Steps.refl _)
  obtain ⟨v8, T8, X8, E8, g8⟩ := X5.callS hexec (Cmp3.law l b A o len) hown (wks W (staticW "java/lang/String" 177 Cmp3.yN)) (wk W Cmp3.tab) (W := 0) (Nat.le_of_ble_eq_true rfl) (Nat.le_of_ble_eq_true rfl) (Nat.le_refl _) (by show 0 + len ≤ len; omega) (g := (mkF m 36 #[.val (.ref a), .val (.ref b), .val (.int (Int32.ofNat o)), .val (.int (Int32.ofNat len)), .val .null, .unset] [.int (Int32.ofNat len), .int (Int32.ofNat o), .ref b])) rfl (by rw [hml]; rfl) c7 (argsL := [.ref b, .int (Int32.ofNat o), .int (Int32.ofNat len)]) (rest := []) rfl rfl (by show 2 * 0 + 0 ≤ _; decide) (hb hbytes d36) (⟨rfl, hA.mv X5.warmed.alike hh5, l1, l2, hp⟩)
  obtain ⟨e8, z8⟩ := E8
  obtain ⟨rfl, N, n1, n2, n3, n4, n5, n6⟩ := NewArr.mv _ T5 s _ _ hh5.symm (Vm.Alike.refl _) rfl e8
  rw [hh5] at z8
  have hB1 := hB.keep X8.warmed.alike (n6 _ _ hB.1)
  have hne : s.heap.size ≠ a := (Nat.ne_of_lt (Array.getElem?_eq_some_iff.mp hB.1).1).symm
  have c9 : Steps p.tables e below (s₁.setTop (entryFrame m #[.ref a, .ref b, .int (Int32.ofNat o), .int (Int32.ofNat len), .null] 6)) (T8.setTop (mkF m 39 #[.val (.ref a), .val (.ref b), .val (.int (Int32.ofNat o)), .val (.int (Int32.ofNat len)), .val .null, .unset] [.ref s.heap.size])) := g8
  have c10 : Steps p.tables e below (s₁.setTop (entryFrame m #[.ref a, .ref b, .int (Int32.ofNat o), .int (Int32.ofNat len), .null] 6)) (T8.setTop (mkF m 45 #[.val (.ref a), .val (.ref b), .val (.int (Int32.ofNat o)), .val (.int (Int32.ofNat len)), .val .null, .val (.ref s.heap.size)] [.int (Int32.ofNat N.slots.size), .ref s.heap.size, .ref a])) := by
    have hc : Steps p.tables e below (s₁.setTop (entryFrame m #[.ref a, .ref b, .int (Int32.ofNat o), .int (Int32.ofNat len), .null] 6)) (T8.setTop (mkF m 45 #[.val (.ref a), .val (.ref b), .val (.int (Int32.ofNat o)), .val (.int (Int32.ofNat len)), .val .null, .val (.ref s.heap.size)] [.int (Int32.ofNat len), .ref s.heap.size, .ref a])) := c9.trans (by
      refine XS.astore X8.here hexec rfl (hb hbytes d39) rfl rfl rfl ?_
      refine XS.aloadN X8.here hexec rfl (hb hbytes d41) rfl rfl ?_
      refine XS.aload X8.here hexec rfl (hb hbytes d42) rfl rfl ?_
      refine XS.iloadN X8.here hexec rfl (hb hbytes d44) rfl ?_
      exact Steps.refl _)
    rw [n4]; exact hc
  obtain ⟨v11, T11, X11, E11, g11⟩ := X8.callS hexec (CodL.law l s.heap.size N) hown (wks W (staticW "java/lang/String" 47 CodL.yN)) (wk W CodL.tab) (W := 1) (Nat.le_of_ble_eq_true rfl) (Nat.le_of_ble_eq_true rfl) (Nat.le_refl _) (by show 0 + len + 0 ≤ len; omega) (g := (mkF m 45 #[.val (.ref a), .val (.ref b), .val (.int (Int32.ofNat o)), .val (.int (Int32.ofNat len)), .val .null, .val (.ref s.heap.size)] [.int (Int32.ofNat N.slots.size), .ref s.heap.size, .ref a])) rfl (by rw [hml]; rfl) c10 (argsL := [.ref s.heap.size, .int (Int32.ofNat N.slots.size)]) (rest := [.ref a]) rfl rfl (by show 2 * 0 + (1 + 0) ≤ _; decide) (hb hbytes d45) (⟨rfl, n1⟩)
  obtain ⟨rfl, q11⟩ := E11
  have hB11 := hB1.mv (X8.warmed.alike.symm.trans X11.warmed.alike) q11
  have c12 : Steps p.tables e below (s₁.setTop (entryFrame m #[.ref a, .ref b, .int (Int32.ofNat o), .int (Int32.ofNat len), .null] 6)) (T11.setTop (mkF m 48 #[.val (.ref a), .val (.ref b), .val (.int (Int32.ofNat o)), .val (.int (Int32.ofNat len)), .val .null, .val (.ref s.heap.size)] [.int 0, .ref a])) := g11
  obtain ⟨T13, X13, p13, bl13, sl13, st13⟩ := X11.finit hexec hown (wk W (.fieldLink "java/lang/String" 15 "java/lang/String" "coder" "B")) (Or.inr ⟨_, (wk W (.laysFinal "java/lang/String" "java/lang/String" "coder" "B"))⟩) (Or.inl ⟨rfl, hnm⟩) f2 (Or.inl rfl) hB11 (t := .byte) (by decide +kernel) rfl (g := (mkF m 48 #[.val (.ref a), .val (.ref b), .val (.int (Int32.ofNat o)), .val (.int (Int32.ofNat len)), .val .null, .val (.ref s.heap.size)] [.int 0, .ref a])) rfl (rest := []) rfl (hb hbytes d48)
  have c14 : Steps p.tables e below (s₁.setTop (entryFrame m #[.ref a, .ref b, .int (Int32.ofNat o), .int (Int32.ofNat len), .null] 6)) (T13.setTop (mkF m 54 #[.val (.ref a), .val (.ref b), .val (.int (Int32.ofNat o)), .val (.int (Int32.ofNat len)), .val .null, .val (.ref s.heap.size)] [.ref s.heap.size, .ref a])) := (c12.trans (st13 _ (Steps.refl _))).trans (by
    refine XS.aloadN X13.here hexec rfl (hb hbytes d51) rfl rfl ?_
    refine XS.aload X13.here hexec rfl (hb hbytes d52) rfl rfl ?_
    exact Steps.refl _)
  obtain ⟨T15, X15, p15, bl15, sl15, st15⟩ := X13.finit hexec hown (wk W (.fieldLink "java/lang/String" 9 "java/lang/String" "value" "[B")) (Or.inr ⟨_, (wk W (.laysFinal "java/lang/String" "java/lang/String" "value" "[B"))⟩) (Or.inl ⟨rfl, hnm⟩) f1 (Or.inl rfl) bl13 (t := (.array .byte)) (by decide +kernel) rfl (g := (mkF m 54 #[.val (.ref a), .val (.ref b), .val (.int (Int32.ofNat o)), .val (.int (Int32.ofNat len)), .val .null, .val (.ref s.heap.size)] [.ref s.heap.size, .ref a])) rfl (rest := []) rfl (hb hbytes d54)
  have c16 : Steps p.tables e below (s₁.setTop (entryFrame m #[.ref a, .ref b, .int (Int32.ofNat o), .int (Int32.ofNat len), .null] 6)) (T15.setTop (mkF m 57 #[.val (.ref a), .val (.ref b), .val (.int (Int32.ofNat o)), .val (.int (Int32.ofNat len)), .val .null, .val (.ref s.heap.size)] [])) := c14.trans (st15 _ (Steps.refl _))
  have ap := apart (Or.inr ⟨_, (wk W (.laysFinal "java/lang/String" "java/lang/String" "value" "[B"))⟩) (Or.inr ⟨_, (wk W (.laysFinal "java/lang/String" "java/lang/String" "coder" "B"))⟩) f1 f2 (t₁ := .array .byte) (t₂ := .byte) (by decide +kernel) (by decide +kernel) (by decide)
  have al := X8.warmed.alike.symm.trans X15.warmed.alike
  have n7 : T11.heap[s.heap.size]? = some N := by rw [q11]; exact n1.1
  exact ⟨T15, none, _, _, _, X15, by simp, rfl, by omega, (fun _ => rfl), ⟨rfl, _, N, bl15, ((Same.refl D _).set _ (by simp)).set _ (by simp), sl15, (Cell.slots_setSlot_ne _ ap).trans sl13, n1.keep al (p15.other hne (p13.other hne n7)), n2, by rw [al.findClass]; exact n3, n4, n5, fun y c h1 h2 => p15.other h1 (p13.other h1 (by rw [q11]; exact n6 y c h2)), by rw [p15.2.2, p13.2.2, q11]; exact z8⟩, fun fs hl => c16.trans (X15.returnOut hexec hret (hb hbytes d57) hl)⟩
end New4
namespace New1
def yN : MethodName := ⟨"java/lang/String", "<init>", "([C)V"⟩
abbrev yB : ByteArray := jdk_42_method_3_code
theorem d0 : decode yB 0 = .ok (.aload_n 0, 1) := by decide +kernel
theorem d1 : decode yB 1 = .ok (.aload_n 1, 1) := by decide +kernel
theorem d2 : decode yB 2 = .ok (.iconst 0, 1) := by decide +kernel
theorem d3 : decode yB 3 = .ok (.aload_n 1, 1) := by decide +kernel
theorem d4 : decode yB 4 = .ok (.arraylength, 1) := by decide +kernel
theorem d5 : decode yB 5 = .ok (.aconst_null, 1) := by decide +kernel
theorem d6 : decode yB 6 = .ok (.invokespecial 27, 3) := by decide +kernel
theorem d9 : decode yB 9 = .ok (.return_, 1) := by decide +kernel
def site : List Cond := [New4.tab] ++ initW "java/lang/String" 27 New4.yN
def tab : Cond := tabOf yN yB 2 none site
def P (a : Addr) (D : Cell) (fV fC : Field) (b : Addr) (A : Cell) (z : Int32) (args : Array Value) (s : State) : Prop := args = #[.ref a, .ref b] ∧ Blank "java/lang/String" a D s ∧ Found "java/lang/String" "value" "[B" fV s ∧ Found "java/lang/String" "coder" "B" fC s ∧ Ch b A s ∧ StaticIs s "java/lang/String" "COMPACT_STRINGS" "Z" (.int z) ∧ ¬ z = 0 ∧ 0 < A.slots.size ∧ A.slots.size ≤ 536870912 ∧ ∀ i, i < A.slots.size → ¬ 255 < cv A i
def E (a : Addr) (D : Cell) (fV fC : Field) (A : Cell) (r : Option Value) (s u : State) : Prop := Got a D fV fC A 0 A.slots.size r s u
theorem law (l : Launch) (a : Addr) (D : Cell) (fV fC : Field) (b : Addr) (A : Cell) (z : Int32) : Law l yN 2 1 3 52 yB 2 none site (P a D fV fC b A z) (E a D fV fC A) [⟨a, fC.slot⟩, ⟨a, fV.slot⟩] 1 A.slots.size := by
  refine Law.of_walk (plainFor_of_name (by decide +kernel)) (by decide +kernel) (by decide +kernel) (by decide) (fun _ _ h => by rw [h.1]; rfl) (fun _ U U' hal hh h => ⟨h.1, h.2.1.mv hal hh, h.2.2.1.al hal, h.2.2.2.1.al hal, h.2.2.2.2.1.mv hal hh, h.2.2.2.2.2.1.there hal hh, h.2.2.2.2.2.2⟩) (fun r U U' V V' h1 hal h2 h => Got.mv r U U' V V' h1 hal h2 h) ?_
  intro p e s m args below meth c s₁ X0 hexec hbytes hml hret hlk hnm hown hh0 W hP
  obtain ⟨rfl, hB, f1, f2, hA, s1, hz, l0, l2, hp⟩ := hP
  have c1 : Steps p.tables e below (s₁.setTop (entryFrame m #[.ref a, .ref b] 2)) (s₁.setTop (mkF m 0 #[.val (.ref a), .val (.ref b)] [])) := entry rfl
  have c2 : Steps p.tables e below (s₁.setTop (entryFrame m #[.ref a, .ref b] 2)) (s₁.setTop (mkF m 6 #[.val (.ref a), .val (.ref b)] [.null, .int (Int32.ofNat A.slots.size), .int 0, .ref b, .ref a])) := c1.trans (by
    refine XS.aloadN X0.here hexec rfl (hb hbytes d0) rfl rfl ?_
    refine XS.aloadN X0.here hexec rfl (hb hbytes d1) rfl rfl ?_
    refine iconstV X0.here hexec rfl 0 (hb hbytes d2) (by decide) ?_
    refine XS.aloadN X0.here hexec rfl (hb hbytes d3) rfl rfl ?_
    refine X0.alen hexec (hA.1.mv X0.warmed.alike hh0) rfl rfl (hb hbytes d4) ?_
    refine XS.aconstNull X0.here hexec rfl (hb hbytes d5) ?_
    exact Steps.refl _)
  obtain ⟨v3, T3, X3, E3, g3⟩ := X0.callN hexec (New4.law l a D fV fC b A z 0 A.slots.size) rfl hown (wks W (initW "java/lang/String" 27 New4.yN)) (W New4.tab (by simp only [site, List.mem_cons, List.mem_append, true_or, or_true])) (W := 0) (Nat.le_of_ble_eq_true rfl) (Nat.le_of_ble_eq_true rfl) (Nat.le_refl _) (by show 0 + A.slots.size ≤ A.slots.size; omega) (g := (mkF m 6 #[.val (.ref a), .val (.ref b)] [.null, .int (Int32.ofNat A.slots.size), .int (Int32.ofNat 0), .ref b, .ref a])) rfl (by rw [hml]; rfl) c2 (argsL := [.ref b, .int (Int32.ofNat 0), .int (Int32.ofNat A.slots.size), .null]) (rest := []) rfl rfl (by show 2 * 0 + 0 ≤ _; decide) (hb hbytes d6) (⟨rfl, hB.mv X0.warmed.alike hh0, f1.al X0.warmed.alike, f2.al X0.warmed.alike, hA.mv X0.warmed.alike hh0, s1.there X0.warmed.alike hh0, hz, l0, by omega, l2, fun i hi => by rw [Nat.zero_add]; exact hp i hi⟩)
  have e0 := Got.mv _ s₁ s _ _ hh0.symm (Vm.Alike.refl _) rfl E3
  obtain rfl := e0.1
  have c4 : Steps p.tables e below (s₁.setTop (entryFrame m #[.ref a, .ref b] 2)) (T3.setTop (mkF m 9 #[.val (.ref a), .val (.ref b)] [])) := g3
  exact ⟨T3, none, _, _, _, X3, by simp, rfl, by omega, (fun _ => rfl), e0, fun fs hl => c4.trans (X3.returnOut hexec hret (hb hbytes d9) hl)⟩
theorem pays {l : Launch} {R : Room} {p : Program} {e : Env} {below : List Frame} {s : State} {sargs : Array Value} {len W : Nat} (a : Addr) (D : Cell) (fV fC : Field) (b : Addr) (A : Cell) (z : Int32) (htab : tab.before sargs s = true) (hfr : 4 ≤ R.frames) (hlo : W + 65 ≤ R.locals) :
    Back l R p e below s sargs yN len W (fun A₁ a₁ => A₁.cells + 1 ≤ R.cells ∧ A₁.slots + A.slots.size ≤ R.slots ∧ P a D fV fC b A z a₁ A₁.U) (fun A₁ _ v₁ B₁ => E a D fV fC A v₁ A₁.U B₁.U ∧ B₁.locs = A₁.locs ++ [⟨a, fC.slot⟩, ⟨a, fV.slot⟩] ∧ B₁.cells = A₁.cells + 1 ∧ B₁.slots = A₁.slots + A.slots.size) :=
  (law l a D fV fC b A z).pays htab hfr (by omega)
end New1
theorem lo8_mask {x : Int32} (h0 : ¬ x < 0) (h1 : ¬ 255 < x) : lo8 x &&& 255 = x := by
  have t : ∀ k : Fin 256, lo8 (Int32.ofNat k.val) &&& 255 = Int32.ofNat k.val := by decide +kernel
  rw [Int32.lt_iff_toInt_lt] at h0 h1
  have e0 : (0 : Int32).toInt = 0 := rfl
  have e1 : (255 : Int32).toInt = 255 := rfl
  obtain ⟨k, hk⟩ : ∃ k : Nat, x.toInt = k := ⟨x.toInt.toNat, by omega⟩
  have hx : x = Int32.ofNat k := Int32.toInt_inj.mp (by rw [hk, Int32.toInt_ofNat_small (by omega)])
  rw [hx]
  exact t ⟨k, by omega⟩
end StrChars
namespace StrChars.Road
open Jvm Sem ClassFile Op Lib Jvm.Stand Jvm.Free Jvm.Free.XT
open Jvm.Lib.Cold (StaticIs)
abbrev ST : String := "java/lang/String"
abbrev words : List Jvm.Cond := [.code New1.yN New1.yB 2 none, .initialized ST, .methodLink ST 27 New4.yN, .instanceMethod New4.yN,
  .code New4.yN New4.yB 6 none, .fieldLink ST 38 ST "COMPACT_STRINGS" "Z", .laysFinal ST ST "value" "[B", .fieldLink ST 9 ST "value" "[B", .laysFinal ST ST "coder" "B", .fieldLink ST 15 ST "coder" "B",
  .methodLink ST 1 Lib.objectInit, .instanceMethod Lib.objectInit, .code Lib.objectInit ⟨#[0xb1]⟩ 1 none, .methodLink ST 177 Cmp3.yN, .static Cmp3.yN, .methodLink ST 47 CodL.yN, .static CodL.yN,
  .code Cmp3.yN Cmp3.yB 6 (some (.array .byte)), .initialized U16, .arrayClass .byte, .methodLink U16 115 Cmp5.yN, .static Cmp5.yN, .code Cmp5.yN Cmp5.yB 7 (some .int), .code CodL.yN CodL.yB 2 (some .byte)]
theorem tab_of {a : Array Value} {s : State} (h : ∀ w ∈ words, w.before a s = true) : New1.tab.before a s = true := by
  have h5 : Cmp5.tab.before a s = true := unparts (wk h (.code Cmp5.yN Cmp5.yB 7 (some .int))) (wks h (.initialized Cmp5.yN.cls :: Cmp5.site))
  have hc : CodL.tab.before a s = true := unparts (wk h (.code CodL.yN CodL.yB 2 (some .byte))) (wks h (.initialized CodL.yN.cls :: CodL.site))
  have q5 : ∀ w ∈ Cmp5.tab :: words, w.before a s = true := fun w hw => (List.mem_cons.mp hw).elim (fun e => e ▸ h5) (h w)
  have h3 : Cmp3.tab.before a s = true := unparts (wk q5 (.code Cmp3.yN Cmp3.yB 6 (some (.array .byte)))) (wks q5 (.initialized Cmp3.yN.cls :: Cmp3.site))
  have q3 : ∀ w ∈ Cmp3.tab :: CodL.tab :: words, w.before a s = true := fun w hw => (List.mem_cons.mp hw).elim (fun e => e ▸ h3) fun hw => (List.mem_cons.mp hw).elim (fun e => e ▸ hc) (h w)
  have h4 : New4.tab.before a s = true := unparts (wk q3 (.code New4.yN New4.yB 6 none)) (wks q3 (.initialized New4.yN.cls :: New4.site))
  have q4 : ∀ w ∈ New4.tab :: words, w.before a s = true := fun w hw => (List.mem_cons.mp hw).elim (fun e => e ▸ h4) (h w)
  exact unparts (wk q4 (.code New1.yN New1.yB 2 none)) (wks q4 (.initialized New1.yN.cls :: New1.site))
theorem moved {Z s : State} {a0 args : Array Value} (hZ : Z.Warmed39 s.vm) (hw : ∀ d ∈ words, d.before a0 Z = true) : ∀ d ∈ words, d.before args s = true := fun d hd => by
  have q := hw d hd
  have t : ∀ d ∈ words, d = .arrayClass .byte ∨ (d.onTables && d.keepsFace) = true := by decide +kernel
  rcases t d hd with rfl | t
  · exact RoadKit.mvA hZ q
  · exact RoadKit.mv hZ q t
def Q (Z : State) (x : Addr) (A : Cell) (h : Heap) (v : Option Value) (h' : Heap) (L : List Loc) : Prop := v = none ∧ (∀ y ∈ L, y.base = x) ∧ RoadKit.Keep h h' [x] ∧ h'.size = h.size + 1 ∧ RoadKit.Exa Z h' x ST ∧ RoadKit.Fld Z h' x ST "value" "[B" (.ref h.size) ∧ RoadKit.Fld Z h' x ST "coder" "B" (.int 0) ∧
  (∃ V : Cell, RoadKit.Arr Z h' h.size V .byte ∧ V.vm = .none ∧ Z.vm.findClass "[B" = some V.cls ∧ V.slots.size = A.slots.size ∧ ∀ j, j < A.slots.size → V.slots[j]? = some (.int (lo8 (cv A j)))) ∧
  ∀ (O n d : String) (w : Value), RoadKit.Fld Z h x O n d w → RoadKit.slotOf Z O n d ≠ RoadKit.slotOf Z ST "value" "[B" → RoadKit.slotOf Z O n d ≠ RoadKit.slotOf Z ST "coder" "B" → RoadKit.Fld Z h' x O n d w
theorem back {p : Program} {l : Launch} {e : Env} {R : Room} {s : State} {args : Array Value} {below : List Frame} {len W : Nat} {Z : State} {a0 : Array Value} {h : Heap} (hZ : Z.Warmed39 s.vm) (hw : ∀ d ∈ words, d.before a0 Z = true) {kI : Nat} (wi : (Jvm.Cond.instantiable ST kI).before a0 Z = true)
    {x b : Addr} {A : Cell} {z : Int32} {v0 c0 : Value} (E : RoadKit.Exa Z h x ST) (V : RoadKit.Fld Z h x ST "value" "[B" v0) (C : RoadKit.Fld Z h x ST "coder" "B" c0) (K : RoadKit.Arr Z h b A .char) (hty : Typed .char A) (S : RoadKit.Sta Z h ST "COMPACT_STRINGS" "Z" (.int z)) (hz : ¬ z = 0)
    (l0 : 0 < A.slots.size) (l2 : A.slots.size ≤ 536870912) (hp : ∀ i, i < A.slots.size → ¬ 255 < cv A i) (hfr : 4 ≤ R.frames) (hlo : W + 65 ≤ R.locals) :
    Back l R p e below s args New1.yN len W (fun P a => a = #[.ref x, .ref b] ∧ P.U.heap = h ∧ P.cells + 1 ≤ R.cells ∧ P.slots + A.slots.size ≤ R.slots)
      (fun P _ v B => ∃ L, Q Z x A h v B.U.heap L ∧ B.locs = P.locs ++ L ∧ B.cells = P.cells + 1 ∧ B.slots = P.slots + A.slots.size) := by
  intro m meth c P g ig mk a X hg hsize hdg hW hn hp'
  obtain ⟨rfl, rfl, r1, r2⟩ := hp'
  have al : Z.vm.Alike P.U.vm := hZ.alike.trans X.warmed.alike
  obtain ⟨D, cfV, kV, iV, fV, hD, gV, stV, knV, obV, asV, slV⟩ := id V
  obtain ⟨D', cfC, kC, iC, fC, hD', gC, stC, -, -, asC, slC⟩ := id C
  cases hD.symm.trans hD'
  obtain ⟨D2, kD, e1, e2, e3, e4, e5⟩ := id E
  cases hD.symm.trans e1
  obtain ⟨c2, k2, i1, i2, i3, -⟩ := Cond.instantiable_spec wi
  cases e2.symm.trans i1
  cases e3.symm.trans i2
  obtain ⟨kU, u1, u2⟩ := al.2.2 _ _ e3
  have hB : Blank ST x D P.U := ⟨hD, ⟨knV, fun q hq => by rw [hq] at obV; cases obV⟩, by rw [al.findClass]; exact e2, kU, u1, by rw [u2]; exact i3, by rw [u2]; exact e5 i3⟩
  have F1 : Found ST "value" "[B" fV P.U := ⟨SBG.found_only al ⟨cfV, kV, iV, gV⟩, stV⟩
  have F2 : Found ST "coder" "B" fC P.U := ⟨SBG.found_only al ⟨cfC, kC, iC, gC⟩, stC⟩
  have hA : Ch b A P.U := ⟨⟨K.1, State.isArrayOf_alike al K.2.1, K.2.2, by omega⟩, hty⟩
  have hS : StaticIs P.U ST "COMPACT_STRINGS" "Z" (.int z) := by
    obtain ⟨cfS, iS, kS, fS, st, cS, t1, t2, t3, t4, t5, t6, t7⟩ := S
    exact StaticIs.there (s := { Z with heap := P.U.heap }) ⟨cfS, iS, kS, fS, st, cS, t1, t2, t3, t4, t5, (fun q => by rw [q] at t6; cases t6), t7⟩ al rfl
  obtain ⟨v, B, X', ⟨⟨hv, E', V', q1, q2, q3, q4, q5, q6, q7, q8, q9, q10, q11⟩, hl, hc, hs⟩, st⟩ := New1.pays x D fV fC b A z (tab_of (moved hZ hw)) hfr hlo m meth c P g ig mk _ X hg hsize hdg hW hn ⟨r1, r2, rfl, hB, F1, F2, hA, hS, hz, l0, l2, hp⟩
  have al' : Z.vm.Alike B.U.vm := hZ.alike.trans X'.warmed.alike
  have hsz : E'.slots.size = D.slots.size := by
    obtain ⟨-, -, -, kB, w1, w2, w3⟩ := q1
    obtain ⟨kB', y1, y2⟩ := al'.2.2 _ _ e3
    rw [q2.2.1] at w1
    cases w1.symm.trans y1
    rw [w3, e5 i3, y2]
  refine ⟨v, B, X', ⟨_, ⟨hv, ?_, ⟨by omega, fun y cy hy hn' => q10 y cy (by simpa using hn') hy, fun y cy hy => ?_⟩, q11, ⟨E', _, q1.1, by rw [q2.2.1]; exact e2, by rw [q2.2.1]; exact e3, by rw [q2.1]; exact obV, fun _ => by rw [hsz]; exact e5 i3⟩,
    ⟨E', cfV, kV, iV, fV, q1.1, gV, stV, by rw [q2.1]; exact knV, by rw [q2.1]; exact obV, by rw [q2.2.1]; exact asV, q3⟩, ⟨E', cfC, kC, iC, fC, q1.1, gC, stC, by rw [q2.1]; exact knV, by rw [q2.1]; exact obV, by rw [q2.2.1]; exact asC, q4⟩,
    ⟨V', ⟨q5.1, State.isArrayOf_alike al'.symm q5.2.1, q5.2.2.1⟩, q6, by rw [← al'.findClass]; exact q7, q8, fun j hj => by have := q9 j hj; rwa [Nat.zero_add] at this⟩, fun O n d w F n1 n2 => ?_⟩, hl, hc, hs⟩, st⟩
  · intro y hy
    simp only [List.mem_cons, List.not_mem_nil, or_false] at hy
    rcases hy with rfl | rfl <;> rfl
  · by_cases q : y = x
    · subst q
      cases hD.symm.trans hy
      exact ⟨E', q1.1, q2.2.1, q2.1, hsz⟩
    · exact ⟨cy, q10 y cy q hy, rfl, rfl, rfl⟩
  · obtain ⟨D3, cf, k, i, f, g1, g2, g3, g4, g5, g6, g7⟩ := F
    cases hD.symm.trans g1
    simp only [RoadKit.slotOf, g2, gV, gC, Option.map_some, Option.getD_some] at n1 n2
    exact ⟨E', cf, k, i, f, q1.1, g2, g3, by rw [q2.1]; exact g4, by rw [q2.1]; exact g5, by rw [q2.2.1]; exact g6, by rw [q2.2.2 f.slot (by simp [n1, n2])]; exact g7⟩
end StrChars.Road
namespace StrChars.Road
open Jvm Sem ClassFile Op Lib Jvm.Stand Jvm.Free Jvm.Free.XT
def QA (Z : State) (x : Addr) (zn : Int32) (cs : List Int32) (h : Heap) (v : Option Value) (h' : Heap) (L : List Loc) : Prop := v = none ∧ (∀ y ∈ L, y.base = x) ∧ RoadKit.Keep h h' [x] ∧ h'.size = h.size + 1 ∧ RoadKit.Exa Z h' x ST ∧ RoadKit.Fld Z h' x ST "value" "[B" (.ref h.size) ∧ RoadKit.Fld Z h' x ST "coder" "B" (.int 0) ∧
  (∃ kb, Z.vm.findClass "[B" = some kb ∧ RoadKit.Arv Z h' h.size kb .byte zn (cs.map fun c => .int (lo8 c)) (.int 0)) ∧
  ∀ (O n d : String) (w : Value), RoadKit.Fld Z h x O n d w → RoadKit.slotOf Z O n d ≠ RoadKit.slotOf Z ST "value" "[B" → RoadKit.slotOf Z O n d ≠ RoadKit.slotOf Z ST "coder" "B" → RoadKit.Fld Z h' x O n d w
theorem backArv {p : Program} {l : Launch} {e : Env} {R : Room} {s : State} {args : Array Value} {below : List Frame} {len W : Nat} {Z : State} {a0 : Array Value} {h : Heap} (hZ : Z.Warmed39 s.vm) (hw : ∀ d ∈ words, d.before a0 Z = true) {kI : Nat} (wi : (Jvm.Cond.instantiable ST kI).before a0 Z = true)
    {x b : Addr} {k : ClassId} {zn z : Int32} {cs : List Int32} {dv v0 c0 : Value} (E : RoadKit.Exa Z h x ST) (V : RoadKit.Fld Z h x ST "value" "[B" v0) (C : RoadKit.Fld Z h x ST "coder" "B" c0) (K : RoadKit.Arv Z h b k .char zn (cs.map Value.int) dv) (S : RoadKit.Sta Z h ST "COMPACT_STRINGS" "Z" (.int z)) (hz : ¬ z = 0)
    (hlen : zn.toNatClampNeg = cs.length) (h0 : 0 < cs.length) (hbig : cs.length ≤ 536870912) (hall : ∀ c ∈ cs, ¬ 255 < c) (hfr : 4 ≤ R.frames) (hlo : W + 65 ≤ R.locals) :
    Back l R p e below s args New1.yN len W (fun P a => a = #[.ref x, .ref b] ∧ P.U.heap = h ∧ P.cells + 1 ≤ R.cells ∧ P.slots + cs.length ≤ R.slots)
      (fun P _ v B => ∃ L, QA Z x zn cs h v B.U.heap L ∧ B.locs = P.locs ++ L ∧ B.cells = P.cells + 1 ∧ B.slots = P.slots + cs.length) := by
  obtain ⟨A, K1, K2, K3, K4, K5, K6⟩ := K
  have e : A.slots.size = cs.length := K3.trans hlen
  have hat : ∀ (i : Nat) (hi : i < cs.length), A.slots[i]? = some (.int cs[i]) := fun i hi => by rw [K5 i (by omega)]; simp [List.getD_eq_getElem?_getD, hi]
  have hcv : ∀ (i : Nat) (hi : i < cs.length), cv A i = cs[i] := fun i hi => by unfold cv; rw [hat i hi]
  have hty : Typed .char A := fun i v hv => by
    have hi : i < A.slots.size := (Array.getElem?_eq_some_iff.mp hv).1
    have q := K5 i hi
    rw [hv] at q
    rw [Option.some.inj q]
    exact K6 i hi
  refine Back.mono (back hZ hw wi E V C K1 hty S hz (by omega) (by omega) (fun i hi => by rw [hcv i (by omega)]; exact hall _ (List.getElem_mem _)) hfr hlo) (fun P a hp => ⟨hp.1, hp.2.1, hp.2.2.1, by rw [e]; exact hp.2.2.2⟩) (fun P a v B hp hq => ?_)
  obtain ⟨L, ⟨q1, q2, q3, q4, q5, q6, q7, ⟨V', v1, v2, v3, v4, v5⟩, q9⟩, hl, hc, hs⟩ := hq
  refine ⟨L, ⟨q1, q2, q3, q4, q5, q6, q7, ⟨V'.cls, v3, V', v1, rfl, by rw [v4, e, hlen], K4, fun i hi => ?_, fun i hi => ?_⟩, q9⟩, hl, hc, by rw [hs, e]⟩
  · have hi' : i < cs.length := by omega
    rw [v5 i (by omega), hcv i hi']; simp [List.getD_eq_getElem?_getD, hi']
  · have hi' : i < cs.length := by omega
    simp only [List.getD_eq_getElem?_getD, List.getElem?_map, List.getElem?_eq_getElem hi', Option.map_some, Option.getD_some]
    exact fits_lo8 _
end StrChars.Road
namespace StrChars.Road
open Jvm Sem ClassFile Op Lib Jvm.Stand Jvm.Free Jvm.Free.XT
def QV (Z : State) (x : Addr) (N : Int32) (bs : List Int32) (h : Heap) (n0 : Nat) (v : Option Value) (h' : Heap) (L : List Loc) : Prop := v = none ∧ RoadKit.Fr n0 L ∧ RoadKit.Keep h h' [x] ∧ RoadKit.Exa Z h' x ST ∧ RoadKit.Fld Z h' x ST "coder" "B" (.int 0) ∧
  ∃ (t : Addr) (kb : ClassId), n0 ≤ t ∧ h.size ≤ t ∧ ¬ t = x ∧ RoadKit.Fld Z h' x ST "value" "[B" (.ref t) ∧ RoadKit.Arv Z h' t kb .byte N (bs.map Value.int) (.int 0)
theorem backV {p : Program} {l : Launch} {e : Env} {R : Room} {s : State} {args : Array Value} {below : List Frame} {len W : Nat} {Z : State} {a0 : Array Value} {h : Heap} (hZ : Z.Warmed39 s.vm) (hw : ∀ d ∈ words, d.before a0 Z = true) {kI : Nat} (wi : (Jvm.Cond.instantiable ST kI).before a0 Z = true)
    {x b : Addr} {kC : ClassId} {cs bs : List Int32} {d v0 c0 : Value} {z N : Int32} {n n0 : Nat} (hx0 : n0 ≤ x) (hh0 : n0 ≤ h.size) (E : RoadKit.Exa Z h x ST) (V : RoadKit.Fld Z h x ST "value" "[B" v0) (C : RoadKit.Fld Z h x ST "coder" "B" c0) (K : RoadKit.Arv Z h b kC .char N (cs.map Value.int) d) (S : RoadKit.Sta Z h ST "COMPACT_STRINGS" "Z" (.int z)) (hz : ¬ z = 0)
    (hn : cs.length = n) (hN : N = Int32.ofNat n) (l0 : 0 < n) (l2 : n ≤ 4000) (hp : ∀ c ∈ cs, ¬ c < 0 ∧ ¬ (255 : Int32) < c) (hb : bs = cs.map (fun c => c.toInt8.toInt32)) (hfr : 4 ≤ R.frames) (hlo : W + 65 ≤ R.locals) :
    Back l R p e below s args (⟨"java/lang/String", "<init>", "([C)V"⟩ : MethodName) len W (fun P a => a = #[.ref x, .ref b] ∧ P.U.heap = h ∧ P.cells + 1 ≤ R.cells ∧ P.slots + n ≤ R.slots)
      (fun P _ v B => ∃ L, QV Z x N bs h n0 v B.U.heap L ∧ B.locs = P.locs ++ L ∧ B.cells = P.cells + 1 ∧ B.slots = P.slots + n) := by
  subst hn hN hb
  refine Back.mono (backArv hZ hw wi E V C K S hz (n32 (by omega)) l0 (by omega) (fun c hc => (hp c hc).2) hfr hlo) (fun P a hp => hp) (fun P a v B hp hq => ?_)
  obtain ⟨L, ⟨q1, q2, q3, q4, q5, q6, q7, ⟨kb, v1, v2⟩, q9⟩, hl, hc, hs⟩ := hq
  exact ⟨L, ⟨q1, fun y hy => by rw [q2 y hy]; exact hx0, q3, q5, q7, h.size, kb, hh0, Nat.le_refl _, Nat.ne_of_gt E.lt, q6, by rw [List.map_map]; exact v2⟩, hl, hc, hs⟩
end StrChars.Road
namespace StrChars
open Jvm Sem ClassFile Op Lib Jvm.Stand Jvm.Free.XT Jvm.Free.ALB Jvm.Free.JM Jvm.Free
open Jvm.Lib.Cold (StaticIs)
def hi8 (x : Int32) : Int32 := lo8 (x >>> ((8 : Int32) &&& 31))
def pairCh (u v : Int32) : Int32 := (((u &&& 255) <<< ((0 : Int32) &&& 31)) ||| ((v &&& 255) <<< ((8 : Int32) &&& 31))).toUInt32.toUInt16.toUInt32.toInt32
theorem shr0 (c : Int32) : c >>> ((0 : Int32) &&& 31) = c := by
  have e : ((0 : Int32) &&& 31) = 0 := by decide
  rw [e]
  apply Int32.toBitVec_inj.mp
  rw [Int32.toBitVec_shiftRight]
  have e1 : ((0 : Int32).toBitVec.smod 32) = 0#32 := by decide
  rw [e1, BitVec.sshiftRight_eq']
  exact BitVec.sshiftRight_zero
theorem lo8_and (x : Int32) : (lo8 x &&& 255).toBitVec.toNat = x.toBitVec.toNat % 256 := by
  have h : (lo8 x).toBitVec = (x.toBitVec.signExtend 8).signExtend 32 := by rw [lo8, Int8.toBitVec_toInt32, Int32.toBitVec_toInt8]
  rw [Int32.toBitVec_and, BitVec.toNat_and, h]
  have e : ((x.toBitVec.signExtend 8).signExtend 32).toNat % 256 = x.toBitVec.toNat % 256 := by
    rw [BitVec.toNat_signExtend]
    have hlt := x.toBitVec.isLt
    simp only [BitVec.toNat_setWidth, BitVec.toNat_signExtend]
    split <;> split <;> omega
  rw [← e]
  exact Nat.and_two_pow_sub_one_eq_mod _ 8
theorem pair_says {c : Int32} (h0 : ¬ c < 0) (h1 : ¬ 65535 < c) : pairCh (lo8 c) (hi8 c) = c := by
  rw [Int32.lt_iff_toInt_lt] at h0 h1
  have e0 : (0 : Int32).toInt = 0 := rfl
  have e1 : (65535 : Int32).toInt = 65535 := rfl
  have hc : c.toInt = c.toBitVec.toNat := by
    have := c.toBitVec.isLt
    have e : c.toInt = c.toBitVec.toInt := rfl
    rw [e] at h0 h1
    rw [e]
    rw [BitVec.toInt_eq_toNat_cond] at h0 h1 ⊢
    split at h0 <;> split <;> omega
  have hn : c.toBitVec.toNat < 65536 := by omega
  have a1 := lo8_and c
  have a2 : (hi8 c &&& 255).toBitVec.toNat = c.toBitVec.toNat / 256 := by
    rw [hi8, lo8_and]
    have e : ((8 : Int32) &&& 31) = 8 := by decide
    rw [e, Int32.toBitVec_shiftRight]
    have e2 : ((8 : Int32).toBitVec.smod 32) = 8#32 := by decide
    rw [e2, BitVec.sshiftRight_eq', BitVec.toNat_sshiftRight_of_msb_false (by rw [BitVec.msb_eq_false_iff_two_mul_lt]; omega)]
    show c.toBitVec.toNat >>> 8 % 256 = _
    rw [Nat.shiftRight_eq_div_pow]
    omega
  unfold pairCh
  apply Int32.toBitVec_inj.mp
  apply BitVec.eq_of_toNat_eq
  have f0 : ((0 : Int32) &&& 31) = 0 := by decide
  have f8 : ((8 : Int32) &&& 31) = 8 := by decide
  rw [f0, f8]
  have g : (((lo8 c &&& 255) <<< (0 : Int32)) ||| ((hi8 c &&& 255) <<< (8 : Int32))).toBitVec.toNat = c.toBitVec.toNat := by
    rw [Int32.toBitVec_or, Int32.toBitVec_shiftLeft, Int32.toBitVec_shiftLeft]
    have s0 : ((0 : Int32).toBitVec.smod 32) = 0#32 := by decide
    have s8 : ((8 : Int32).toBitVec.smod 32) = 8#32 := by decide
    rw [s0, s8, BitVec.toNat_or]
    simp only [BitVec.shiftLeft_eq', BitVec.toNat_shiftLeft, a1, a2]
    show (c.toBitVec.toNat % 256) <<< 0 % 2 ^ 32 ||| (c.toBitVec.toNat / 256) <<< 8 % 2 ^ 32 = _
    rw [Nat.shiftLeft_zero, Nat.mod_eq_of_lt (show c.toBitVec.toNat % 256 < 2 ^ 32 by omega), Nat.mod_eq_of_lt (show (c.toBitVec.toNat / 256) <<< 8 < 2 ^ 32 by rw [Nat.shiftLeft_eq]; omega), Nat.or_comm, ← Nat.shiftLeft_add_eq_or_of_lt (by omega), Nat.shiftLeft_eq]
    omega
  show BitVec.toNat (((((lo8 c &&& 255) <<< (0 : Int32)) ||| ((hi8 c &&& 255) <<< (8 : Int32))).toBitVec.setWidth 16).setWidth 32) = _
  rw [BitVec.toNat_setWidth, BitVec.toNat_setWidth, g]
  omega
end StrChars
namespace StrChars
open Jvm Sem ClassFile Op Lib Jvm.Stand Jvm.Free.XT Jvm.Free.ALB Jvm.Free.JM Jvm.Free
open Jvm.Lib.Cold (StaticIs)
theorem shr1 {n : Nat} (h : 2 * n < 2 ^ 31) : Int32.ofNat (2 * n) >>> ((1 : Int32) &&& 31) = Int32.ofNat n := by
  have e : ((1 : Int32) &&& 31) = 1 := by decide
  rw [e]
  apply Int32.toBitVec_inj.mp
  rw [Int32.toBitVec_shiftRight]
  have e1 : ((1 : Int32).toBitVec.smod 32) = 1#32 := by decide
  have hm : (BitVec.ofNat 32 (2 * n)).toNat = 2 * n := by rw [BitVec.toNat_ofNat, Nat.mod_eq_of_lt (by omega)]
  rw [e1, BitVec.sshiftRight_eq']
  apply BitVec.eq_of_toNat_eq
  show ((BitVec.ofNat 32 (2 * n)).sshiftRight 1).toNat = (BitVec.ofNat 32 n).toNat
  rw [BitVec.toNat_sshiftRight_of_msb_false (by rw [BitVec.msb_eq_false_iff_two_mul_lt, hm]; omega), hm, BitVec.toNat_ofNat, Nat.shiftRight_eq_div_pow]
  omega
def chr8 (u : Int32) : Int32 := (u &&& 255).toUInt32.toUInt16.toUInt32.toInt32
theorem chr8_lo8 {c : Int32} (h0 : ¬ c < 0) (h1 : ¬ 255 < c) : chr8 (lo8 c) = c := by
  have t : ∀ k : Fin 256, (Int32.ofNat k.val).toUInt32.toUInt16.toUInt32.toInt32 = Int32.ofNat k.val := by decide +kernel
  unfold chr8
  rw [lo8_mask h0 h1]
  rw [Int32.lt_iff_toInt_lt] at h0 h1
  have e0 : (0 : Int32).toInt = 0 := rfl
  have e1 : (255 : Int32).toInt = 255 := rfl
  obtain ⟨k, hk⟩ : ∃ k : Nat, c.toInt = k := ⟨c.toInt.toNat, by omega⟩
  have hx : c = Int32.ofNat k := Int32.toInt_inj.mp (by rw [hk, Int32.toInt_ofNat_small (by omega)])
  rw [hx]
  exact t ⟨k, by omega⟩
theorem narrow_ch {c : Int32} (h0 : ¬ c < 0) (h1 : ¬ 65535 < c) : narrow .char (.int c) = .int c := by
  have q : narrow .char (.int (pairCh (lo8 c) (hi8 c))) = .int (pairCh (lo8 c) (hi8 c)) := narrow_c _
  rwa [pair_says h0 h1] at q
def Cod (cd : Int32) (n : Nat) (f : Nat → Int32) (V : Cell) : Prop := (cd = 0 ∧ V.slots.size = n ∧ ∀ j, j < n → V.slots[j]? = some (.int (lo8 (f j))) ∧ ¬ 255 < f j) ∨ (cd = 1 ∧ V.slots.size = 2 * n ∧ (∀ j, j < n → V.slots[2 * j]? = some (.int (lo8 (f j))) ∧ V.slots[2 * j + 1]? = some (.int (hi8 (f j)))) ∧ ∃ j, j < n ∧ 255 < f j)
theorem Cod.cd {cd : Int32} {n : Nat} {f : Nat → Int32} {V : Cell} (h : Cod cd n f V) : cd = 0 ∨ cd = 1 := h.imp (fun q => q.1) fun q => q.1
theorem Cod.len {cd : Int32} {n : Nat} {f : Nat → Int32} {V : Cell} (h : Cod cd n f V) (hs : V.slots.size < 2 ^ 31) : Int32.ofNat V.slots.size >>> (cd &&& 31) = Int32.ofNat n := by
  rcases h with ⟨rfl, h, -⟩ | ⟨rfl, h, -⟩
  · rw [shr0, h]
  · rw [h, shr1 (by omega)]
def Txt (x t : Addr) (V : Cell) (cd : Int32) (n : Nat) (f : Nat → Int32) (U : State) : Prop := Exact "java/lang/String" x U ∧ Has x "java/lang/String" "value" "[B" (.ref t) U ∧ Has x "java/lang/String" "coder" "B" (.int cd) U ∧ XT.Arr .byte t V U ∧ Cod cd n f V ∧ ∀ j, j < n → ¬ f j < 0 ∧ ¬ 65535 < f j
theorem Txt.mv {x t : Addr} {V : Cell} {cd : Int32} {n : Nat} {f : Nat → Int32} {U U' : State} (h : Txt x t V cd n f U) (hal : U.vm.Alike U'.vm) (hh : U'.heap = U.heap) : Txt x t V cd n f U' := ⟨h.1.mv hal hh, h.2.1.mv hal hh, h.2.2.1.mv hal hh, h.2.2.2.1.mv hal hh, h.2.2.2.2⟩
namespace Cdr
def yN : MethodName := ⟨"java/lang/String", "coder", "()B"⟩
abbrev yB : ByteArray := jdk_42_method_152_code
theorem d0 : decode yB 0 = .ok (.getstatic 38, 3) := by decide +kernel
theorem d3 : decode yB 3 = .ok (.ifCond (.eq) 10, 3) := by decide +kernel
theorem d6 : decode yB 6 = .ok (.aload_n 0, 1) := by decide +kernel
theorem d7 : decode yB 7 = .ok (.getfield 15, 3) := by decide +kernel
theorem d10 : decode yB 10 = .ok (.goto 4, 3) := by decide +kernel
theorem d14 : decode yB 14 = .ok (.ireturn, 1) := by decide +kernel
def site : List Cond := [.fieldLink "java/lang/String" 38 "java/lang/String" "COMPACT_STRINGS" "Z", .fieldLink "java/lang/String" 15 "java/lang/String" "coder" "B"]
def tab : Cond := tabOf yN yB 1 (some .byte) site
def P (x : Addr) (cd z : Int32) (args : Array Value) (s : State) : Prop := args = #[.ref x] ∧ Has x "java/lang/String" "coder" "B" (.int cd) s ∧ (cd = 0 ∨ cd = 1) ∧ StaticIs s "java/lang/String" "COMPACT_STRINGS" "Z" (.int z) ∧ ¬ z = 0
def E (cd : Int32) (r : Option Value) (s u : State) : Prop := XT.PureE (some (.int cd)) r s u
theorem law (l : Launch) (x : Addr) (cd z : Int32) : Law l yN 1 0 0 0 yB 1 (some .byte) site (P x cd z) (E cd) [] 0 0 := by
  refine Law.of_walk (plainFor_of_name (by decide +kernel)) (by decide +kernel) (by decide +kernel) (by decide) (fun _ _ h => by rw [h.1]; rfl) (fun _ U U' hal hh h => ⟨h.1, h.2.1.mv hal hh, h.2.2.1, h.2.2.2.1.there hal hh, h.2.2.2.2⟩) (fun r U U' V V' h1 hal h2 h => XT.PureE.mv r U U' V V' h1 hal h2 h) ?_
  intro p e s m args below meth c s₁ X0 hexec hbytes hml hret hlk hnm hown hh0 W hP
  obtain ⟨rfl, hx, hc, s1, hz⟩ := hP
  have c1 : Steps p.tables e below (s₁.setTop (entryFrame m #[.ref x] 1)) (s₁.setTop (mkF m 0 #[.val (.ref x)] [])) := entry rfl
  obtain ⟨T2, X2, q2, st2⟩ := X0.sget hexec hown (wk W (.fieldLink "java/lang/String" 38 "java/lang/String" "COMPACT_STRINGS" "Z")) s1 (fun _ _ h => by rw [hh0]; exact h) (g := (mkF m 0 #[.val (.ref x)] [])) rfl (hb hbytes d0)
  have hh2 := q2.trans hh0
  have c3 : Steps p.tables e below (s₁.setTop (entryFrame m #[.ref x] 1)) (T2.setTop (mkF m 7 #[.val (.ref x)] [.ref x])) := (c1.trans (st2 _ (Steps.refl _))).trans (by
    refine XS.ifNo X2.here hexec rfl (hb hbytes d3) rfl (i0_eq_f hz) ?_
    refine XS.aloadN X2.here hexec rfl (hb hbytes d6) rfl rfl ?_
    exact Steps.refl _)
  obtain ⟨T4, X4, q4, st4⟩ := X2.hget hexec hown (wk W (.fieldLink "java/lang/String" 15 "java/lang/String" "coder" "B")) (hx.mv X2.warmed.alike hh2) (g := (mkF m 7 #[.val (.ref x)] [.ref x])) rfl (rest := []) rfl (hb hbytes d7)
  have c5 : Steps p.tables e below (s₁.setTop (entryFrame m #[.ref x] 1)) (T4.setTop (mkF m 14 #[.val (.ref x)] [.int cd])) := (c3.trans (st4 _ (Steps.refl _))).trans (by
    refine XS.goto X4.here hexec rfl (pc0 := 10) rfl (hb hbytes d10) (by decide) rfl ?_
    exact Steps.refl _)
  exact ⟨T4, some (.int cd), _, _, _, X4, rfl, rfl, rfl, (fun h => by cases h), ⟨rfl, q4.trans hh2⟩, fun fs hl => c5.trans (X4.ireturnOut hexec hret (by rcases hc with rfl | rfl <;> rfl) (Or.inr (Or.inr (Or.inl rfl))) (hb hbytes d14) hl)⟩
end Cdr
namespace Len
def yN : MethodName := ⟨"java/lang/String", "length", "()I"⟩
abbrev yB : ByteArray := jdk_42_method_54_code
theorem d0 : decode yB 0 = .ok (.aload_n 0, 1) := by decide +kernel
theorem d1 : decode yB 1 = .ok (.getfield 9, 3) := by decide +kernel
theorem d4 : decode yB 4 = .ok (.arraylength, 1) := by decide +kernel
theorem d5 : decode yB 5 = .ok (.aload_n 0, 1) := by decide +kernel
theorem d6 : decode yB 6 = .ok (.invokevirtual 335, 3) := by decide +kernel
theorem d9 : decode yB 9 = .ok (.ishr, 1) := by decide +kernel
theorem d10 : decode yB 10 = .ok (.ireturn, 1) := by decide +kernel
def site : List Cond := [.fieldLink "java/lang/String" 9 "java/lang/String" "value" "[B", Cdr.tab] ++ virtW "java/lang/String" 335 "java/lang/String" Cdr.yN Cdr.yN
def tab : Cond := tabOf yN yB 1 (some .int) site
def P (x t : Addr) (V : Cell) (cd : Int32) (n : Nat) (f : Nat → Int32) (z : Int32) (args : Array Value) (s : State) : Prop := args = #[.ref x] ∧ Txt x t V cd n f s ∧ StaticIs s "java/lang/String" "COMPACT_STRINGS" "Z" (.int z) ∧ ¬ z = 0
def E (n : Nat) (r : Option Value) (s u : State) : Prop := XT.PureE (some (.int (Int32.ofNat n))) r s u
theorem law (l : Launch) (x t : Addr) (V : Cell) (cd : Int32) (n : Nat) (f : Nat → Int32) (z : Int32) : Law l yN 1 0 1 13 yB 1 (some .int) site (P x t V cd n f z) (E n) [] 0 0 := by
  refine Law.of_walk (plainFor_of_name (by decide +kernel)) (by decide +kernel) (by decide +kernel) (by decide) (fun _ _ h => by rw [h.1]; rfl) (fun _ U U' hal hh h => ⟨h.1, h.2.1.mv hal hh, h.2.2.1.there hal hh, h.2.2.2⟩) (fun r U U' V V' h1 hal h2 h => XT.PureE.mv r U U' V V' h1 hal h2 h) ?_
  intro p e s m args below meth c s₁ X0 hexec hbytes hml hret hlk hnm hown hh0 W hP
  obtain ⟨rfl, hx, s1, hz⟩ := hP
  have v31 := hx.2.2.2.1.2.2.2
  have c1 : Steps p.tables e below (s₁.setTop (entryFrame m #[.ref x] 1)) (s₁.setTop (mkF m 1 #[.val (.ref x)] [.ref x])) := Steps.trans (entry rfl) (by
    show Steps p.tables e below (s₁.setTop (mkF m 0 #[.val (.ref x)] [])) _
    refine XS.aloadN X0.here hexec rfl (hb hbytes d0) rfl rfl ?_
    exact Steps.refl _)
  obtain ⟨T2, X2, q2, st2⟩ := X0.hget hexec hown (wk W (.fieldLink "java/lang/String" 9 "java/lang/String" "value" "[B")) (hx.mv X0.warmed.alike hh0).2.1 (g := (mkF m 1 #[.val (.ref x)] [.ref x])) rfl (rest := []) rfl (hb hbytes d1)
  have hh2 := q2.trans hh0
  have hx2 := hx.mv X2.warmed.alike hh2
  have c3 : Steps p.tables e below (s₁.setTop (entryFrame m #[.ref x] 1)) (T2.setTop (mkF m 6 #[.val (.ref x)] [.ref x, .int (Int32.ofNat V.slots.size)])) := (c1.trans (st2 _ (Steps.refl _))).trans (by
    refine X2.alen hexec hx2.2.2.2.1 rfl rfl (hb hbytes d4) ?_
    refine XS.aloadN X2.here hexec rfl (hb hbytes d5) rfl rfl ?_
    exact Steps.refl _)
  obtain ⟨v4, T4, X4, E4, g4⟩ := X2.callV hexec (Cdr.law l x cd z) hown (wks W (virtW "java/lang/String" 335 "java/lang/String" Cdr.yN Cdr.yN)) rfl (by decide) (wk W Cdr.tab) (W := 1) (Nat.le_of_ble_eq_true rfl) (Nat.le_of_ble_eq_true rfl) (Nat.le_refl _) (Nat.le_refl _) (hx2.1.fc X2.warmed.alike) hx2.1.is (g := (mkF m 6 #[.val (.ref x)] [.ref x, .int (Int32.ofNat V.slots.size)])) rfl (by rw [hml]; rfl) c3 (argsL := []) (rest := [.int (Int32.ofNat V.slots.size)]) rfl rfl (by show 2 * 0 + (1 + 0) ≤ _; decide) (hb hbytes d6) (⟨rfl, hx2.2.2.1, hx.2.2.2.2.1.cd, s1.there X2.warmed.alike hh2, hz⟩)
  obtain ⟨rfl, q4⟩ := E4
  have c5 : Steps p.tables e below (s₁.setTop (entryFrame m #[.ref x] 1)) (T4.setTop (mkF m 10 #[.val (.ref x)] [.int (Int32.ofNat V.slots.size >>> (cd &&& 31))])) := Steps.trans g4 (by
    refine ishr X4.here hexec rfl (hb hbytes d9) rfl ?_
    exact Steps.refl _)
  rw [hx.2.2.2.2.1.len v31] at c5
  exact ⟨T4, some (.int (Int32.ofNat n)), _, _, _, X4, rfl, rfl, rfl, (fun h => by cases h), ⟨rfl, q4.trans hh2⟩, fun fs hl => c5.trans (X4.ireturnOut hexec hret rfl (Or.inl rfl) (hb hbytes d10) hl)⟩
theorem pays {l : Launch} {R : Room} {p : Program} {e : Env} {below : List Frame} {s : State} {sargs : Array Value} {len W : Nat} (x t : Addr) (V : Cell) (cd : Int32) (n : Nat) (f : Nat → Int32) (z : Int32) (htab : tab.before sargs s = true) (hfr : 2 ≤ R.frames) (hlo : W + 25 ≤ R.locals) :
    Back l R p e below s sargs yN len W (fun A₁ a₁ => A₁.cells + 0 ≤ R.cells ∧ A₁.slots + 0 ≤ R.slots ∧ P x t V cd n f z a₁ A₁.U) (fun A₁ _ v₁ B₁ => E n v₁ A₁.U B₁.U ∧ B₁.locs = A₁.locs ++ [] ∧ B₁.cells = A₁.cells + 0 ∧ B₁.slots = A₁.slots + 0) :=
  (law l x t V cd n f z).pays htab hfr (by omega)
end Len
namespace IsL
def yN : MethodName := ⟨"java/lang/String", "isLatin1", "()Z"⟩
abbrev yB : ByteArray := jdk_42_method_154_code
theorem d0 : decode yB 0 = .ok (.getstatic 38, 3) := by decide +kernel
theorem d3 : decode yB 3 = .ok (.ifCond (.eq) 14, 3) := by decide +kernel
theorem d6 : decode yB 6 = .ok (.aload_n 0, 1) := by decide +kernel
theorem d7 : decode yB 7 = .ok (.getfield 15, 3) := by decide +kernel
theorem d10 : decode yB 10 = .ok (.ifCond (.ne) 7, 3) := by decide +kernel
theorem d13 : decode yB 13 = .ok (.iconst 1, 1) := by decide +kernel
theorem d14 : decode yB 14 = .ok (.goto 4, 3) := by decide +kernel
theorem d17 : decode yB 17 = .ok (.iconst 0, 1) := by decide +kernel
theorem d18 : decode yB 18 = .ok (.ireturn, 1) := by decide +kernel
def site : List Cond := [.fieldLink "java/lang/String" 38 "java/lang/String" "COMPACT_STRINGS" "Z", .fieldLink "java/lang/String" 15 "java/lang/String" "coder" "B"]
def tab : Cond := tabOf yN yB 1 (some .boolean) site
def P (x : Addr) (cd z : Int32) (args : Array Value) (s : State) : Prop := args = #[.ref x] ∧ Has x "java/lang/String" "coder" "B" (.int cd) s ∧ (cd = 0 ∨ cd = 1) ∧ StaticIs s "java/lang/String" "COMPACT_STRINGS" "Z" (.int z) ∧ ¬ z = 0
def E (cd : Int32) (r : Option Value) (s u : State) : Prop := XT.PureE (some (.int (1 - cd))) r s u
theorem law (l : Launch) (x : Addr) (cd z : Int32) : Law l yN 1 0 0 0 yB 1 (some .boolean) site (P x cd z) (E cd) [] 0 0 := by
  refine Law.of_walk (plainFor_of_name (by decide +kernel)) (by decide +kernel) (by decide +kernel) (by decide) (fun _ _ h => by rw [h.1]; rfl) (fun _ U U' hal hh h => ⟨h.1, h.2.1.mv hal hh, h.2.2.1, h.2.2.2.1.there hal hh, h.2.2.2.2⟩) (fun r U U' V V' h1 hal h2 h => XT.PureE.mv r U U' V V' h1 hal h2 h) ?_
  intro p e s m args below meth c s₁ X0 hexec hbytes hml hret hlk hnm hown hh0 W hP
  obtain ⟨rfl, hx, hc, s1, hz⟩ := hP
  have c1 : Steps p.tables e below (s₁.setTop (entryFrame m #[.ref x] 1)) (s₁.setTop (mkF m 0 #[.val (.ref x)] [])) := entry rfl
  obtain ⟨T2, X2, q2, st2⟩ := X0.sget hexec hown (wk W (.fieldLink "java/lang/String" 38 "java/lang/String" "COMPACT_STRINGS" "Z")) s1 (fun _ _ h => by rw [hh0]; exact h) (g := (mkF m 0 #[.val (.ref x)] [])) rfl (hb hbytes d0)
  have hh2 := q2.trans hh0
  have c3 : Steps p.tables e below (s₁.setTop (entryFrame m #[.ref x] 1)) (T2.setTop (mkF m 7 #[.val (.ref x)] [.ref x])) := (c1.trans (st2 _ (Steps.refl _))).trans (by
    refine XS.ifNo X2.here hexec rfl (hb hbytes d3) rfl (i0_eq_f hz) ?_
    refine XS.aloadN X2.here hexec rfl (hb hbytes d6) rfl rfl ?_
    exact Steps.refl _)
  obtain ⟨T4, X4, q4, st4⟩ := X2.hget hexec hown (wk W (.fieldLink "java/lang/String" 15 "java/lang/String" "coder" "B")) (hx.mv X2.warmed.alike hh2) (g := (mkF m 7 #[.val (.ref x)] [.ref x])) rfl (rest := []) rfl (hb hbytes d7)
  have c5 : Steps p.tables e below (s₁.setTop (entryFrame m #[.ref x] 1)) (T4.setTop (mkF m 10 #[.val (.ref x)] [.int cd])) := c3.trans (st4 _ (Steps.refl _))
  have c6 : Steps p.tables e below (s₁.setTop (entryFrame m #[.ref x] 1)) (T4.setTop (mkF m 18 #[.val (.ref x)] [.int (1 - cd)])) := by
    rcases hc with rfl | rfl
    · exact c5.trans (by
        refine XS.ifNo X4.here hexec rfl (hb hbytes d10) rfl (i0_ne_f rfl) ?_
        refine iconstV X4.here hexec rfl 1 (hb hbytes d13) (by decide) ?_
        refine XS.goto X4.here hexec rfl (pc0 := 14) rfl (hb hbytes d14) (by decide) rfl ?_
        exact Steps.refl _)
    · exact c5.trans (by
        refine XS.ifYes X4.here hexec rfl (pc0 := 10) rfl (hb hbytes d10) rfl (i0_ne_t (by decide)) (by decide) rfl ?_
        refine iconstV X4.here hexec rfl 0 (hb hbytes d17) (by decide) ?_
        exact Steps.refl _)
  exact ⟨T4, some (.int (1 - cd)), _, _, _, X4, rfl, rfl, rfl, (fun h => by cases h), ⟨rfl, q4.trans hh2⟩, fun fs hl => c6.trans (X4.ireturnOut hexec hret (by rcases hc with rfl | rfl <;> rfl) (Or.inr (Or.inl rfl)) (hb hbytes d18) hl)⟩
end IsL
namespace LChA
def yN : MethodName := ⟨"java/lang/StringLatin1", "charAt", "([BI)C"⟩
abbrev yB : ByteArray := jdk_43_method_2_code
theorem d0 : decode yB 0 = .ok (.iload_n 1, 1) := by decide +kernel
theorem d1 : decode yB 1 = .ok (.aload_n 0, 1) := by decide +kernel
theorem d2 : decode yB 2 = .ok (.arraylength, 1) := by decide +kernel
theorem d3 : decode yB 3 = .ok (.invokestatic 9, 3) := by decide +kernel
theorem d6 : decode yB 6 = .ok (.aload_n 0, 1) := by decide +kernel
theorem d7 : decode yB 7 = .ok (.iload_n 1, 1) := by decide +kernel
theorem d8 : decode yB 8 = .ok (.baload, 1) := by decide +kernel
theorem d9 : decode yB 9 = .ok (.sipush 255, 3) := by decide +kernel
theorem d12 : decode yB 12 = .ok (.iand, 1) := by decide +kernel
theorem d13 : decode yB 13 = .ok (.i2c, 1) := by decide +kernel
theorem d14 : decode yB 14 = .ok (.ireturn, 1) := by decide +kernel
def site : List Cond := [JO.Str_checkIndex.tab] ++ staticW "java/lang/StringLatin1" 9 JO.Str_checkIndex.yN
def tab : Cond := tabOf yN yB 2 (some .char) site
def P (t : Addr) (V : Cell) (i : Nat) (u : Int32) (fm : Value) (args : Array Value) (s : State) : Prop := args = #[.ref t, .int (Int32.ofNat i)] ∧ XT.Arr .byte t V s ∧ V.slots[i]? = some (.int u) ∧ (StaticIs s "jdk/internal/util/Preconditions" "SIOOBE_FORMATTER" "Ljava/util/function/BiFunction;" fm ∧ fm.isRef = true)
def E (u : Int32) (r : Option Value) (s w : State) : Prop := XT.PureE (some (.int (chr8 u))) r s w
theorem law (l : Launch) (t : Addr) (V : Cell) (i : Nat) (u : Int32) (fm : Value) : Law l yN 2 2 2 27 yB 2 (some .char) site (P t V i u fm) (E u) [] 0 0 := by
  refine Law.of_walk (plainFor_of_name (by decide +kernel)) (by decide +kernel) (by decide +kernel) (by decide) (fun _ _ h => by rw [h.1]; rfl) (fun _ U U' hal hh h => ⟨h.1, h.2.1.mv hal hh, h.2.2.1, h.2.2.2.1.there hal hh, h.2.2.2.2⟩) (fun r U U' V V' h1 hal h2 h => XT.PureE.mv r U U' V V' h1 hal h2 h) ?_
  intro p e s m args below meth c s₁ X0 hexec hbytes hml hret hlk hnm hown hh0 W hP
  obtain ⟨rfl, hV, hu, s1, rf⟩ := hP
  have v31 := hV.2.2.2
  have hi : i < V.slots.size := (Array.getElem?_eq_some_iff.mp hu).1
  have c1 : Steps p.tables e below (s₁.setTop (entryFrame m #[.ref t, .int (Int32.ofNat i)] 2)) (s₁.setTop (mkF m 0 #[.val (.ref t), .val (.int (Int32.ofNat i))] [])) := entry rfl
  have c2 : Steps p.tables e below (s₁.setTop (entryFrame m #[.ref t, .int (Int32.ofNat i)] 2)) (s₁.setTop (mkF m 3 #[.val (.ref t), .val (.int (Int32.ofNat i))] [.int (Int32.ofNat V.slots.size), .int (Int32.ofNat i)])) := c1.trans (by
    refine XS.iloadN X0.here hexec rfl (hb hbytes d0) rfl ?_
    refine XS.aloadN X0.here hexec rfl (hb hbytes d1) rfl rfl ?_
    refine X0.alen hexec (hV.mv X0.warmed.alike hh0) rfl rfl (hb hbytes d2) ?_
    exact Steps.refl _)
  obtain ⟨v3, T3, X3, E3, g3⟩ := X0.callS hexec (JO.Str_checkIndex.law l (Int32.ofNat i) (Int32.ofNat V.slots.size) fm) hown (wks W (staticW "java/lang/StringLatin1" 9 JO.Str_checkIndex.yN)) (wk W JO.Str_checkIndex.tab) (W := 0) (Nat.le_of_ble_eq_true rfl) (Nat.le_of_ble_eq_true rfl) (Nat.le_refl _) (Nat.le_refl _) (g := (mkF m 3 #[.val (.ref t), .val (.int (Int32.ofNat i))] [.int (Int32.ofNat V.slots.size), .int (Int32.ofNat i)])) rfl (by rw [hml]; rfl) c2 (argsL := [.int (Int32.ofNat i), .int (Int32.ofNat V.slots.size)]) (rest := []) rfl rfl (by show 2 * 0 + 0 ≤ _; decide) (hb hbytes d3) (⟨rfl, rf, s1.there X0.warmed.alike hh0, Int32.ofNat_not_neg (by omega), lt32 v31 hi⟩)
  obtain ⟨rfl, q3⟩ := E3
  have hh3 := q3.trans hh0
  have c4 : Steps p.tables e below (s₁.setTop (entryFrame m #[.ref t, .int (Int32.ofNat i)] 2)) (T3.setTop (mkF m 14 #[.val (.ref t), .val (.int (Int32.ofNat i))] [.int (chr8 u)])) := Steps.trans g3 (by
    refine XS.aloadN X3.here hexec rfl (hb hbytes d6) rfl rfl ?_
    refine XS.iloadN X3.here hexec rfl (hb hbytes d7) rfl ?_
    refine X3.aget hexec (hV.mv X3.warmed.alike hh3) rfl hu rfl rfl (hb hbytes d8) ?_
    refine sipushV X3.here hexec rfl 255 (hb hbytes d9) (by decide) ?_
    refine XS.iand X3.here hexec rfl (hb hbytes d12) rfl ?_
    refine i2c X3.here hexec rfl (hb hbytes d13) rfl ?_
    exact Steps.refl _)
  exact ⟨T3, some (.int (chr8 u)), _, _, _, X3, rfl, rfl, rfl, (fun h => by cases h), ⟨rfl, hh3⟩, fun fs hl => c4.trans (X3.ireturnOut hexec hret (narrow_c _) (Or.inr (Or.inr (Or.inr (Or.inl rfl)))) (hb hbytes d14) hl)⟩
end LChA
end StrChars
namespace StrChars.Road
open Jvm Sem ClassFile Op Lib Jvm.Stand Jvm.Free Jvm.Free.XT
open Jvm.Lib.Cold (StaticIs)
theorem consq {a : Array Value} {s : State} {c : Jvm.Cond} {L : List Jvm.Cond} (h0 : c.before a s = true) (h : ∀ w ∈ L, w.before a s = true) : ∀ w ∈ c :: L, w.before a s = true := fun w hw => (List.mem_cons.mp hw).elim (fun e => e ▸ h0) (h w)
abbrev wordsLen : List Jvm.Cond := [.code Len.yN Len.yB 1 (some .int), .initialized ST, .fieldLink ST 9 ST "value" "[B", .fieldLink ST 38 ST "COMPACT_STRINGS" "Z", .fieldLink ST 15 ST "coder" "B", .code Cdr.yN Cdr.yB 1 (some .byte), .methodLink ST 335 Cdr.yN, .declares Cdr.yN, .selects ST Cdr.yN Cdr.yN, .instanceMethod Cdr.yN]
theorem tabLen_of {a : Array Value} {s : State} (h : ∀ w ∈ wordsLen, w.before a s = true) : Len.tab.before a s = true := by
  have hc : Cdr.tab.before a s = true := unparts (wk h (.code Cdr.yN Cdr.yB 1 (some .byte))) (wks h (.initialized Cdr.yN.cls :: Cdr.site))
  have q := consq hc h
  exact unparts (wk q (.code Len.yN Len.yB 1 (some .int))) (wks q (.initialized Len.yN.cls :: Len.site))
theorem movedLen {Z s : State} {a0 args : Array Value} (hZ : Z.Warmed39 s.vm) (hw : ∀ d ∈ wordsLen, d.before a0 Z = true) : ∀ d ∈ wordsLen, d.before args s = true := fun d hd => by
  have q := hw d hd
  have t : ∀ d ∈ wordsLen, d = .arrayClass .byte ∨ (d.onTables && d.keepsFace) = true := by decide +kernel
  rcases t d hd with rfl | t
  · exact RoadKit.mvA hZ q
  · exact RoadKit.mv hZ q t
def wideBytes : List Int32 → List Value
  | [] => []
  | c :: cs => .int (lo8 c) :: .int (hi8 c) :: wideBytes cs
theorem wide_lo (d : Value) : ∀ (cs : List Int32) (j : Nat), j < cs.length → (wideBytes cs).getD (2 * j) d = .int (lo8 (cs.getD j 0))
  | [], j, h => absurd h (Nat.not_lt_zero j)
  | c :: cs, 0, _ => rfl
  | c :: cs, j + 1, h => by
    have q := wide_lo d cs j (by simpa using h)
    rw [show 2 * (j + 1) = 2 * j + 1 + 1 from by omega]
    simpa [wideBytes] using q
theorem wide_hi (d : Value) : ∀ (cs : List Int32) (j : Nat), j < cs.length → (wideBytes cs).getD (2 * j + 1) d = .int (hi8 (cs.getD j 0))
  | [], j, h => absurd h (Nat.not_lt_zero j)
  | c :: cs, 0, _ => rfl
  | c :: cs, j + 1, h => by
    have q := wide_hi d cs j (by simpa using h)
    rw [show 2 * (j + 1) + 1 = 2 * j + 1 + 1 + 1 from by omega]
    simpa [wideBytes] using q
theorem low_at (d : Value) (cs : List Int32) (j : Nat) (h : j < cs.length) : (cs.map fun c => Value.int (lo8 c)).getD j d = .int (lo8 (cs.getD j 0)) := by
  simp [List.getD_eq_getElem?_getD, h]
def CodA (cs : List Int32) (cd N2 : Int32) (vs : List Value) : Prop := (cd = 0 ∧ N2 = Int32.ofNat cs.length ∧ vs = (cs.map fun c => Value.int (lo8 c)) ∧ ∀ c ∈ cs, ¬ 255 < c) ∨ (cd = 1 ∧ N2 = Int32.ofNat (2 * cs.length) ∧ vs = wideBytes cs ∧ ∃ c ∈ cs, 255 < c)
theorem CodA.cod {cs : List Int32} {cd N2 : Int32} {vs : List Value} {V : Cell} (h : CodA cs cd N2 vs) (hn : 2 * cs.length < 2 ^ 31) (hs : V.slots.size = N2.toNatClampNeg) (hv : RoadKit.Has V vs (.int 0)) : Cod cd cs.length (fun j => cs.getD j 0) V := by
  rcases h with ⟨rfl, rfl, rfl, h⟩ | ⟨rfl, rfl, rfl, c, hc, hw⟩
  · rw [n32 (by omega)] at hs
    exact Or.inl ⟨rfl, hs, fun j hj => ⟨by rw [hv j (by omega), low_at _ _ _ hj], by
      have e : cs.getD j 0 = cs[j] := by simp [List.getD_eq_getElem?_getD, hj]
      show ¬ 255 < cs.getD j 0
      rw [e]; exact h _ (List.getElem_mem _)⟩⟩
  · rw [n32 (by omega)] at hs
    obtain ⟨j, hj, rfl⟩ := List.getElem_of_mem hc
    exact Or.inr ⟨rfl, hs, fun j hj => ⟨by rw [hv _ (by omega), wide_lo _ _ _ hj], by rw [hv _ (by omega), wide_hi _ _ _ hj]⟩, j, hj, by
      have e : cs.getD j 0 = cs[j] := by simp [List.getD_eq_getElem?_getD, hj]
      show 255 < cs.getD j 0
      rw [e]; exact hw⟩
theorem strObj {Z U : State} {a0 : Array Value} {kI : Nat} (wi : (Jvm.Cond.instantiable ST kI).before a0 Z = true) (al : Z.vm.Alike U.vm) {x : Addr} {v0 c0 : Value} (E : RoadKit.Exa Z U.heap x ST) (V : RoadKit.Fld Z U.heap x ST "value" "[B" v0) (C : RoadKit.Fld Z U.heap x ST "coder" "B" c0) :
    ∃ (D : Cell) (fV fC : Field), Blank ST x D U ∧ Found ST "value" "[B" fV U ∧ Found ST "coder" "B" fC U ∧ D.slots[fV.slot]? = some v0 ∧ D.slots[fC.slot]? = some c0 ∧ RoadKit.slotOf Z ST "value" "[B" = fV.slot ∧ RoadKit.slotOf Z ST "coder" "B" = fC.slot := by
  obtain ⟨D, cfV, kV, iV, fV, hD, gV, stV, knV, obV, asV, slV⟩ := V
  obtain ⟨D', cfC, kC, iC, fC, hD', gC, stC, -, -, asC, slC⟩ := C
  cases hD.symm.trans hD'
  obtain ⟨D2, kD, e1, e2, e3, e4, e5⟩ := E
  cases hD.symm.trans e1
  obtain ⟨c2, k2, i1, i2, i3, -⟩ := Cond.instantiable_spec wi
  cases e2.symm.trans i1
  cases e3.symm.trans i2
  obtain ⟨kU, u1, u2⟩ := al.2.2 _ _ e3
  exact ⟨D, fV, fC, ⟨hD, ⟨knV, fun q hq => by rw [hq] at obV; cases obV⟩, by rw [al.findClass]; exact e2, kU, u1, by rw [u2]; exact i3, by rw [u2]; exact e5 i3⟩, ⟨SBG.found_only al ⟨cfV, kV, iV, gV⟩, stV⟩, ⟨SBG.found_only al ⟨cfC, kC, iC, gC⟩, stC⟩, slV, slC, by simp [RoadKit.slotOf, gV], by simp [RoadKit.slotOf, gC]⟩
theorem sta_is {Z U : State} (al : Z.vm.Alike U.vm) {C n d : String} {v : Value} (S : RoadKit.Sta Z U.heap C n d v) : StaticIs U C n d v := by
  obtain ⟨cfS, iS, kS, fS, st, cS, t1, t2, t3, t4, t5, t6, t7⟩ := S
  exact StaticIs.there (s := { Z with heap := U.heap }) ⟨cfS, iS, kS, fS, st, cS, t1, t2, t3, t4, t5, (fun q => by rw [q] at t6; cases t6), t7⟩ al rfl
theorem lenW {p : Program} {l : Launch} {e : Env} {R : Room} {s : State} {args : Array Value} {below : List Frame} {len W : Nat} {Z : State} {a0 : Array Value} {h : Heap} (hZ : Z.Warmed39 s.vm) (hw : ∀ d ∈ wordsLen, d.before a0 Z = true) {kI : Nat} (wi : (Jvm.Cond.instantiable ST kI).before a0 Z = true)
    {x t : Addr} {kb : ClassId} {cs : List Int32} {cd N2 z : Int32} {vs : List Value} (E : RoadKit.Exa Z h x ST) (V : RoadKit.Fld Z h x ST "value" "[B" (.ref t)) (C : RoadKit.Fld Z h x ST "coder" "B" (.int cd)) (K : RoadKit.Arv Z h t kb .byte N2 vs (.int 0)) (hc : CodA cs cd N2 vs) (hb : ∀ c ∈ cs, ¬ c < 0 ∧ ¬ (65535 : Int32) < c)
    (S : RoadKit.Sta Z h ST "COMPACT_STRINGS" "Z" (.int z)) (hz : ¬ z = 0) (l2 : cs.length ≤ 4000) (hfr : 2 ≤ R.frames) (hlo : W + 25 ≤ R.locals) :
    Back l R p e below s args (⟨"java/lang/String", "length", "()I"⟩ : MethodName) len W (fun P a => a = #[.ref x] ∧ P.U.heap = h ∧ P.cells + 0 ≤ R.cells ∧ P.slots + 0 ≤ R.slots)
      (fun P _ v B => ∃ L, (v = some (.int (Int32.ofNat cs.length)) ∧ L = [] ∧ B.U.heap = h) ∧ B.locs = P.locs ++ L ∧ B.cells = P.cells + 0 ∧ B.slots = P.slots + 0) := by
  obtain ⟨A, K1, K2, K3, K4, K5, K6⟩ := K
  have hcod := hc.cod (by omega) K3 K5
  intro m meth c P g ig mk a X hg hsize hdg hW hn hp'
  obtain ⟨rfl, rfl, r1, r2⟩ := hp'
  have al : Z.vm.Alike P.U.vm := hZ.alike.trans X.warmed.alike
  obtain ⟨D, fV, fC, hB, F1, F2, g1, g2, -, -⟩ := strObj wi al E V C
  have hx : Txt x t A cd cs.length (fun j => cs.getD j 0) P.U := ⟨⟨_, hB.2.2.1, D, hB.1, rfl, by cases q : D.vm <;> first | rfl | exact absurd q (hB.2.1.2 _)⟩, Has.of hB F1 g1, Has.of hB F2 g2, ⟨K1.1, State.isArrayOf_alike al K1.2.1, K1.2.2, by rcases hcod with ⟨-, q, -⟩ | ⟨-, q, -⟩ <;> omega⟩, hcod, fun j hj => by
    have e : cs.getD j 0 = cs[j] := by simp [List.getD_eq_getElem?_getD, hj]
    show ¬ cs.getD j 0 < 0 ∧ ¬ 65535 < cs.getD j 0
    rw [e]; exact hb _ (List.getElem_mem _)⟩
  obtain ⟨v, B, X', ⟨⟨hv, hh⟩, hl, hk, hs⟩, st⟩ := Len.pays x t A cd cs.length (fun j => cs.getD j 0) z (tabLen_of (movedLen hZ hw)) hfr hlo m meth c P g ig mk _ X hg hsize hdg hW hn ⟨r1, r2, rfl, hx, sta_is al S, hz⟩
  exact ⟨v, B, X', ⟨[], ⟨hv, rfl, hh⟩, hl, hk, hs⟩, st⟩
end StrChars.Road
namespace StrChars.Road
open Jvm Sem ClassFile Op Lib Jvm.Stand Jvm.Free Jvm.Free.XT
open Jvm.Lib.Cold (StaticIs)
theorem txt_of {Z U : State} {a0 : Array Value} {kI : Nat} (wi : (Jvm.Cond.instantiable ST kI).before a0 Z = true) (al : Z.vm.Alike U.vm) {x t : Addr} {kb : ClassId} {cs : List Int32} {cd N2 : Int32} {vs : List Value} (E : RoadKit.Exa Z U.heap x ST) (V : RoadKit.Fld Z U.heap x ST "value" "[B" (.ref t)) (C : RoadKit.Fld Z U.heap x ST "coder" "B" (.int cd)) (K : RoadKit.Arv Z U.heap t kb .byte N2 vs (.int 0)) (hc : CodA cs cd N2 vs) (hb : ∀ c ∈ cs, ¬ c < 0 ∧ ¬ (65535 : Int32) < c) (l2 : cs.length ≤ 4000) :
    ∃ A, Txt x t A cd cs.length (fun j => cs.getD j 0) U := by
  obtain ⟨A, K1, K2, K3, K4, K5, K6⟩ := K
  have hcod := hc.cod (by omega) K3 K5
  obtain ⟨D, fV, fC, hB, F1, F2, g1, g2, -, -⟩ := strObj wi al E V C
  exact ⟨A, ⟨_, hB.2.2.1, D, hB.1, rfl, by cases q : D.vm <;> first | rfl | exact absurd q (hB.2.1.2 _)⟩, Has.of hB F1 g1, Has.of hB F2 g2, ⟨K1.1, State.isArrayOf_alike al K1.2.1, K1.2.2, by rcases hcod with ⟨-, q, -⟩ | ⟨-, q, -⟩ <;> omega⟩, hcod, fun j hj => by
    have e : cs.getD j 0 = cs[j] := by simp [List.getD_eq_getElem?_getD, hj]
    show ¬ cs.getD j 0 < 0 ∧ ¬ 65535 < cs.getD j 0
    rw [e]; exact hb _ (List.getElem_mem _)⟩
end StrChars.Road
namespace StrChars
open Jvm Sem ClassFile Op Lib Jvm.Stand Jvm.Free.XT Jvm.Free.ALB Jvm.Free.JM Jvm.Free
open Jvm.Lib.Cold (StaticIs)
namespace ChN
def yN : MethodName := ⟨"java/lang/String", "charAt", "(I)C"⟩
abbrev yB : ByteArray := jdk_42_method_56_code
theorem d0 : decode yB 0 = .ok (.aload_n 0, 1) := by decide +kernel
theorem d1 : decode yB 1 = .ok (.invokevirtual 492, 3) := by decide +kernel
theorem d4 : decode yB 4 = .ok (.ifCond (.eq) 12, 3) := by decide +kernel
theorem d7 : decode yB 7 = .ok (.aload_n 0, 1) := by decide +kernel
theorem d8 : decode yB 8 = .ok (.getfield 9, 3) := by decide +kernel
theorem d11 : decode yB 11 = .ok (.iload_n 1, 1) := by decide +kernel
theorem d12 : decode yB 12 = .ok (.invokestatic 495, 3) := by decide +kernel
theorem d15 : decode yB 15 = .ok (.ireturn, 1) := by decide +kernel
def site : List Cond := [.fieldLink "java/lang/String" 9 "java/lang/String" "value" "[B", IsL.tab, LChA.tab] ++ virtW "java/lang/String" 492 "java/lang/String" IsL.yN IsL.yN ++ staticW "java/lang/String" 495 LChA.yN
def tab : Cond := tabOf yN yB 2 (some .char) site
def P (x t : Addr) (V : Cell) (n : Nat) (f : Nat → Int32) (z : Int32) (fm : Value) (i : Nat) (args : Array Value) (s : State) : Prop := args = #[.ref x, .int (Int32.ofNat i)] ∧ Txt x t V 0 n f s ∧ i < n ∧ StaticIs s "java/lang/String" "COMPACT_STRINGS" "Z" (.int z) ∧ ¬ z = 0 ∧ StaticIs s "jdk/internal/util/Preconditions" "SIOOBE_FORMATTER" "Ljava/util/function/BiFunction;" fm ∧ fm.isRef = true
def E (f : Nat → Int32) (i : Nat) (r : Option Value) (s u : State) : Prop := XT.PureE (some (.int (f i))) r s u
theorem law (l : Launch) (x t : Addr) (V : Cell) (n : Nat) (f : Nat → Int32) (z : Int32) (fm : Value) (i : Nat) : Law l yN 2 1 3 40 yB 2 (some .char) site (P x t V n f z fm i) (E f i) [] 0 0 := by
  refine Law.of_walk (plainFor_of_name (by decide +kernel)) (by decide +kernel) (by decide +kernel) (by decide) (fun _ _ h => by rw [h.1]; rfl) (fun _ U U' hal hh h => ⟨h.1, h.2.1.mv hal hh, h.2.2.1, h.2.2.2.1.there hal hh, h.2.2.2.2.1, h.2.2.2.2.2.1.there hal hh, h.2.2.2.2.2.2⟩) (fun r U U' V V' h1 hal h2 h => XT.PureE.mv r U U' V V' h1 hal h2 h) ?_
  intro p e s m args below meth c s₁ X0 hexec hbytes hml hret hlk hnm hown hh0 W hP
  obtain ⟨rfl, hx, hi, s1, hz, s3, rf⟩ := hP
  have v31 := hx.2.2.2.1.2.2.2
  have hr := hx.2.2.2.2.2 i hi
  have hx0 := hx.mv X0.warmed.alike hh0
  have c1 : Steps p.tables e below (s₁.setTop (entryFrame m #[.ref x, .int (Int32.ofNat i)] 2)) (s₁.setTop (mkF m 1 #[.val (.ref x), .val (.int (Int32.ofNat i))] [.ref x])) := Steps.trans (entry rfl) (by
    show Steps p.tables e below (s₁.setTop (mkF m 0 #[.val (.ref x), .val (.int (Int32.ofNat i))] [])) _
    refine XS.aloadN X0.here hexec rfl (hb hbytes d0) rfl rfl ?_
    exact Steps.refl _)
  obtain ⟨v2, T2, X2, E2, g2⟩ := X0.callV hexec (IsL.law l x 0 z) hown (wks W (virtW "java/lang/String" 492 "java/lang/String" IsL.yN IsL.yN)) rfl (by decide) (wk W IsL.tab) (W := 0) (Nat.le_of_ble_eq_true rfl) (Nat.le_of_ble_eq_true rfl) (Nat.le_refl _) (Nat.le_refl _) (hx0.1.fc X0.warmed.alike) hx0.1.is (g := (mkF m 1 #[.val (.ref x), .val (.int (Int32.ofNat i))] [.ref x])) rfl (by rw [hml]; rfl) c1 (argsL := []) (rest := []) rfl rfl (by show 2 * 0 + 0 ≤ _; decide) (hb hbytes d1) (⟨rfl, hx0.2.2.1, hx.2.2.2.2.1.cd, s1.there X0.warmed.alike hh0, hz⟩)
  obtain ⟨rfl, q2⟩ := E2
  have hh2 := q2.trans hh0
  have hx2 := hx.mv X2.warmed.alike hh2
  obtain ⟨-, k1, k2⟩ | ⟨k0, -⟩ := hx.2.2.2.2.1
  · have c3 : Steps p.tables e below (s₁.setTop (entryFrame m #[.ref x, .int (Int32.ofNat i)] 2)) (T2.setTop (mkF m 8 #[.val (.ref x), .val (.int (Int32.ofNat i))] [.ref x])) := Steps.trans g2 (by
      refine XS.ifNo X2.here hexec rfl (hb hbytes d4) rfl (i0_eq_f (by decide)) ?_
      refine XS.aloadN X2.here hexec rfl (hb hbytes d7) rfl rfl ?_
      exact Steps.refl _)
    obtain ⟨T4, X4, q4, st4⟩ := X2.hget hexec hown (wk W (.fieldLink "java/lang/String" 9 "java/lang/String" "value" "[B")) hx2.2.1 (g := (mkF m 8 #[.val (.ref x), .val (.int (Int32.ofNat i))] [.ref x])) rfl (rest := []) rfl (hb hbytes d8)
    have hh4 := q4.trans hh2
    have c5 : Steps p.tables e below (s₁.setTop (entryFrame m #[.ref x, .int (Int32.ofNat i)] 2)) (T4.setTop (mkF m 12 #[.val (.ref x), .val (.int (Int32.ofNat i))] [.int (Int32.ofNat i), .ref t])) := (c3.trans (st4 _ (Steps.refl _))).trans (by
      refine XS.iloadN X4.here hexec rfl (hb hbytes d11) rfl ?_
      exact Steps.refl _)
    obtain ⟨v6, T6, X6, E6, g6⟩ := X4.callS hexec (LChA.law l t V i (lo8 (f i)) fm) hown (wks W (staticW "java/lang/String" 495 LChA.yN)) (wk W LChA.tab) (W := 0) (Nat.le_of_ble_eq_true rfl) (Nat.le_of_ble_eq_true rfl) (Nat.le_refl _) (Nat.le_refl _) (g := (mkF m 12 #[.val (.ref x), .val (.int (Int32.ofNat i))] [.int (Int32.ofNat i), .ref t])) rfl (by rw [hml]; rfl) c5 (argsL := [.ref t, .int (Int32.ofNat i)]) (rest := []) rfl rfl (by show 2 * 0 + 0 ≤ _; decide) (hb hbytes d12) (⟨rfl, hx.2.2.2.1.mv X4.warmed.alike hh4, (k2 i hi).1, s3.there X4.warmed.alike hh4, rf⟩)
    obtain ⟨rfl, q6⟩ := E6
    rw [chr8_lo8 hr.1 (k2 i hi).2] at g6
    exact ⟨T6, some (.int (f i)), _, _, _, X6, rfl, rfl, rfl, (fun h => by cases h), ⟨rfl, q6.trans hh4⟩, fun fs hl => Steps.trans g6 (X6.ireturnOut hexec hret (narrow_ch hr.1 hr.2) (Or.inr (Or.inr (Or.inr (Or.inl rfl)))) (hb hbytes d15) hl)⟩
  · exact absurd k0 (by decide)
theorem pays {l : Launch} {R : Room} {p : Program} {e : Env} {below : List Frame} {s : State} {sargs : Array Value} {len W : Nat} (x t : Addr) (V : Cell) (n : Nat) (f : Nat → Int32) (z : Int32) (fm : Value) (i : Nat) (htab : tab.before sargs s = true) (hfr : 4 ≤ R.frames) (hlo : W + 53 ≤ R.locals) :
    Back l R p e below s sargs yN len W (fun A₁ a₁ => A₁.cells + 0 ≤ R.cells ∧ A₁.slots + 0 ≤ R.slots ∧ P x t V n f z fm i a₁ A₁.U) (fun A₁ _ v₁ B₁ => E f i v₁ A₁.U B₁.U ∧ B₁.locs = A₁.locs ++ [] ∧ B₁.cells = A₁.cells + 0 ∧ B₁.slots = A₁.slots + 0) :=
  (law l x t V n f z fm i).pays htab hfr (by omega)
end ChN
end StrChars
namespace StrChars.Road
open Jvm Sem ClassFile Op Lib Jvm.Stand Jvm.Free Jvm.Free.XT
open Jvm.Lib.Cold (StaticIs)
abbrev wordsChN : List Jvm.Cond := [.code ChN.yN ChN.yB 2 (some .char), .initialized ST, .fieldLink ST 9 ST "value" "[B", .fieldLink ST 38 ST "COMPACT_STRINGS" "Z", .fieldLink ST 15 ST "coder" "B", .code IsL.yN IsL.yB 1 (some .boolean), .methodLink ST 492 IsL.yN, .declares IsL.yN, .selects ST IsL.yN IsL.yN, .instanceMethod IsL.yN,
  .methodLink ST 495 LChA.yN, .static LChA.yN, .code LChA.yN LChA.yB 2 (some .char), .initialized "java/lang/StringLatin1", .methodLink "java/lang/StringLatin1" 9 JO.Str_checkIndex.yN, .static JO.Str_checkIndex.yN, .code JO.Str_checkIndex.yN JO.Str_checkIndex.yB 2 none,
  .fieldLink ST 1053 "jdk/internal/util/Preconditions" "SIOOBE_FORMATTER" "Ljava/util/function/BiFunction;", .methodLink ST 1059 JC.PreCheck.yN, .static JC.PreCheck.yN, .code JC.PreCheck.yN JC.PreCheck.yB 3 (some .int), .initialized "jdk/internal/util/Preconditions"]
theorem tabChN_of {a : Array Value} {s : State} (h : ∀ w ∈ wordsChN, w.before a s = true) : ChN.tab.before a s = true := by
  have hp : JC.PreCheck.tab.before a s = true := unparts (wk h (.code JC.PreCheck.yN JC.PreCheck.yB 3 (some .int))) (wks h (.initialized JC.PreCheck.yN.cls :: JC.PreCheck.site))
  have qk := consq hp h
  have hk : JO.Str_checkIndex.tab.before a s = true := unparts (wk qk (.code JO.Str_checkIndex.yN JO.Str_checkIndex.yB 2 none)) (wks qk (.initialized JO.Str_checkIndex.yN.cls :: JO.Str_checkIndex.site))
  have ql := consq hk h
  have hl : LChA.tab.before a s = true := unparts (wk ql (.code LChA.yN LChA.yB 2 (some .char))) (wks ql (.initialized LChA.yN.cls :: LChA.site))
  have hi : IsL.tab.before a s = true := unparts (wk h (.code IsL.yN IsL.yB 1 (some .boolean))) (wks h (.initialized IsL.yN.cls :: IsL.site))
  have q := consq hi (consq hl h)
  exact unparts (wk q (.code ChN.yN ChN.yB 2 (some .char))) (wks q (.initialized ChN.yN.cls :: ChN.site))
theorem movedChN {Z s : State} {a0 args : Array Value} (hZ : Z.Warmed39 s.vm) (hw : ∀ d ∈ wordsChN, d.before a0 Z = true) : ∀ d ∈ wordsChN, d.before args s = true := fun d hd => by
  have t : ∀ d ∈ wordsChN, (d.onTables && d.keepsFace) = true := by decide +kernel
  exact RoadKit.mv hZ (hw d hd) (t d hd)
theorem chN {p : Program} {l : Launch} {e : Env} {R : Room} {s : State} {args : Array Value} {below : List Frame} {len W : Nat} {Z : State} {a0 : Array Value} {h : Heap} (hZ : Z.Warmed39 s.vm) (hw : ∀ d ∈ wordsChN, d.before a0 Z = true) {kI : Nat} (wi : (Jvm.Cond.instantiable ST kI).before a0 Z = true)
    {x t : Addr} {kb : ClassId} {cs : List Int32} {N2 z : Int32} {vs : List Value} {fm : Value} {i : Nat} {j : Int32} (E : RoadKit.Exa Z h x ST) (V : RoadKit.Fld Z h x ST "value" "[B" (.ref t)) (C : RoadKit.Fld Z h x ST "coder" "B" (.int 0)) (K : RoadKit.Arv Z h t kb .byte N2 vs (.int 0)) (hc : CodA cs 0 N2 vs) (hb : ∀ c ∈ cs, ¬ c < 0 ∧ ¬ (65535 : Int32) < c)
    (S : RoadKit.Sta Z h ST "COMPACT_STRINGS" "Z" (.int z)) (hz : ¬ z = 0) (F : RoadKit.Sta Z h "jdk/internal/util/Preconditions" "SIOOBE_FORMATTER" "Ljava/util/function/BiFunction;" fm) (rf : fm.isRef = true) (l2 : cs.length ≤ 4000) (hi : i < cs.length) (hj : j = Int32.ofNat i) (hfr : 4 ≤ R.frames) (hlo : W + 53 ≤ R.locals) :
    Back l R p e below s args (⟨"java/lang/String", "charAt", "(I)C"⟩ : MethodName) len W (fun P a => a = #[.ref x, .int j] ∧ P.U.heap = h ∧ P.cells + 0 ≤ R.cells ∧ P.slots + 0 ≤ R.slots)
      (fun P _ v B => ∃ L, (v = some (.int (cs.getD i 0)) ∧ L = [] ∧ B.U.heap = h) ∧ B.locs = P.locs ++ L ∧ B.cells = P.cells + 0 ∧ B.slots = P.slots + 0) := by
  subst hj
  intro m meth c P g ig mk a X hg hsize hdg hW hn hp'
  obtain ⟨rfl, rfl, r1, r2⟩ := hp'
  have al : Z.vm.Alike P.U.vm := hZ.alike.trans X.warmed.alike
  obtain ⟨A, hx⟩ := txt_of wi al E V C K hc hb l2
  obtain ⟨v, B, X', ⟨⟨hv, hh⟩, hl, hk, hs⟩, st⟩ := ChN.pays x t A cs.length (fun j => cs.getD j 0) z fm i (tabChN_of (movedChN hZ hw)) hfr hlo m meth c P g ig mk _ X hg hsize hdg hW hn ⟨r1, r2, rfl, hx, hi, sta_is al S, hz, sta_is al F, rf⟩
  exact ⟨v, B, X', ⟨[], ⟨hv, rfl, hh⟩, hl, hk, hs⟩, st⟩
end StrChars.Road
end Jvm.Pilot.@@N@@

namespace Jvm.Pilot.@@N@@
open Jvm Jvm.ClassFile Sem Op Lib Jvm.Free Jvm.Stand Jvm.LawKit Jvm.RoadKit Bundle Jvm.Pilot.@@N@@.Jvm.D
section Own
variable {p : Program} {l : Launch} {e : Env} {R : Room} {s : State} {m : MethodId} {args : Array Value} {below : List Frame} {meth : Method} {c : Code} {T : State} {locs : List Loc} {cells slots : Nat} {P : Outcome → State → Prop}
/-- from S the run comes to an end that answers -/
def own_Fin (p : Program) (e : Env) (below : List Frame) (P : Outcome → State → Prop) (S : State) : Prop := ∃ s₂ o, Steps p.tables e below S s₂ ∧ s₂.status = .running ∧ Ended s₂ below o ∧ P o s₂
def own_Ans (s : State) (Q : Option Value → Heap → List Loc → Prop) (k n : Nat) (o : Outcome) (t : State) : Prop := ∃ v L, o = .returned v ∧ Q v t.heap L ∧ FrameEnd s o t L k n
theorem own_on {A B : State} (k : ∀ t, Steps p.tables e below B t → Steps p.tables e below A t) (h : own_Fin p e below P B) : own_Fin p e below P A := by
  obtain ⟨s₂, o, h1, h2⟩ := h
  exact ⟨s₂, o, k _ h1, h2⟩
theorem own_via {A B : State} (k : Steps p.tables e below A B) (h : own_Fin p e below P B) : own_Fin p e below P A := own_on (fun _ r => k.trans r) h
theorem own_cast {g g' : JFrame} (q : g = g') (h : own_Fin p e below P (T.setTop g')) : own_Fin p e below P (T.setTop g) := q ▸ h
theorem own_ret {Q : Option Value → Heap → List Loc → Prop} {k n : Nat} (X : Stand p l e R s m args below meth c T locs cells slots) (hx : p.tables.exec = Jvm.exec) (hlk : meth.locks = false) {pc : Nat} {Ls : Array Slot} {w : Value} {t : FieldType} {i : Instr} {rest : List Value} (hret : meth.sig.returnType = some t) (hn : narrow t w = w)
    (hi : (i = .ireturn ∧ (t = .int ∨ t = .boolean ∨ t = .byte ∨ t = .char ∨ t = .short) ∧ ∃ z, w = .int z) ∨ (i = .lreturn ∧ t = .long ∧ ∃ z, w = .long z) ∨ (i = .dreturn ∧ t = .double ∧ ∃ z, w = .double z) ∨ (i = .freturn ∧ t = .float ∧ ∃ z, w = .float z) ∨ (i = .areturn ∧ t.isReference = true ∧ w.isRef = true))
    (hd : decode c.code pc = .ok (i, 1)) (hQ : Q (some w) T.heap locs) (hk : cells ≤ k) (hs : slots ≤ n) : own_Fin p e below (own_Ans s Q k n) (T.setTop (mkF m pc Ls (w :: rest))) := by
  obtain ⟨fs, hr, hrun, hended, hW, hsame⟩ := X.leave (v := some w) (fun h => by rw [hret] at h; cases h) hlk
  exact ⟨_, _, retOut X hx hret hn hi hd hr, hrun, hended, _, _, rfl, hQ, ⟨_, rfl⟩, hW, hsame.mono hk hs⟩
theorem own_retV {Q : Option Value → Heap → List Loc → Prop} {k n : Nat} (X : Stand p l e R s m args below meth c T locs cells slots) (hx : p.tables.exec = Jvm.exec) (hlk : meth.locks = false) {pc : Nat} {Ls : Array Slot} (hret : meth.sig.returnType = none)
    (hd : decode c.code pc = .ok (.return_, 1)) (hQ : Q none T.heap locs) (hk : cells ≤ k) (hs : slots ≤ n) : own_Fin p e below (own_Ans s Q k n) (T.setTop (mkF m pc Ls [])) := by
  obtain ⟨fs, hr, hrun, hended, hW, hsame⟩ := X.leave (v := none) (fun _ => rfl) hlk
  exact ⟨_, _, X.returnOut hx hret hd hr, hrun, hended, _, _, rfl, hQ, ⟨_, rfl⟩, hW, hsame.mono hk hs⟩
theorem own_b1 {P : Prop} [Decidable P] (h : P) : ¬ ((if P then (1 : Int32) else 0) = 0) := by simp [h]
theorem own_b0 {P : Prop} [Decidable P] (h : ¬ P) : (if P then (1 : Int32) else 0) = 0 := by simp [h]
theorem own_nb {P : Prop} [Decidable P] : narrow .boolean (.int (if P then (1 : Int32) else 0)) = .int (if P then (1 : Int32) else 0) := by split <;> rfl
theorem own_iI {t : FieldType} (h : t = .int ∨ t = .boolean ∨ t = .byte ∨ t = .char ∨ t = .short) {w : Value} {z : Int32} (hw : w = .int z) : ((Instr.ireturn = .ireturn ∧ (t = .int ∨ t = .boolean ∨ t = .byte ∨ t = .char ∨ t = .short) ∧ ∃ z, w = .int z) ∨ (Instr.ireturn = .lreturn ∧ t = .long ∧ ∃ z, w = .long z) ∨ (Instr.ireturn = .dreturn ∧ t = .double ∧ ∃ z, w = .double z) ∨ (Instr.ireturn = .freturn ∧ t = .float ∧ ∃ z, w = .float z) ∨ (Instr.ireturn = .areturn ∧ t.isReference = true ∧ w.isRef = true)) := Or.inl ⟨rfl, h, z, hw⟩
theorem own_ne_of {Z : State} {h : Heap} {x : Addr} (q : x < h.size) {b : Addr} (g : b = h.size) : x ≠ b := Nat.ne_of_lt (Nat.lt_of_lt_of_le q (Nat.le_of_eq g.symm))
theorem own_eqf {a0 : Array Value} {C n d : String} {t : Term} {a : Addr} {k : Int32} (ev : t.eval a0 s none [] s = some (.ref a)) (h : (Jvm.Cond.eq (.field t C n d) (.int k)).value a0 s none s [] = some true) : Fld s s.heap a C n d (.int k) := by
  obtain ⟨x, y, h1, h2, h3, -⟩ := cmp_v (Or.inl h)
  have hy : y = .int k := (Option.some.inj ((show (Term.int k).eval a0 s none [] s = some (.int k) from rfl).symm.trans h2)).symm
  subst hy
  cases x <;> simp [Kin, Value.isRef] at h3
  rename_i z
  have hz : z = k := by
    have q := h
    simp only [Cond.value, h1, show (Term.int k).eval a0 s none [] s = some (.int k) from rfl] at q
    simpa using q
  subst hz
  exact Fld.start ((fld_at ev).symm.trans h1)
theorem own_nf {a0 : Array Value} {C : String} {y z y' : MethodName} (hsel : (Jvm.Cond.selects C y z).before a0 s = true) (hc : y'.cls = z.cls) : NotFace s y' := fun r0 h0 => by
  obtain ⟨c2, r2, m2, q1, q2, q3, q4, kP, hkP, hkPi⟩ := Cond.selects_spec hsel
  have e1 := findClass_of_methodNamed h0
  have e2 := findClass_of_methodNamed q3
  rw [hc] at e1
  have e3 : r0.cls = m2.cls := Option.some.inj (e1.symm.trans e2)
  exact ⟨kP, by rw [e3]; exact hkP, hkPi⟩
theorem own_len {a0 : Array Value} {t : Term} {a : Addr} {cl : Cell} {z : Int32} (ht : t.eval a0 s none [] s = some (.ref a)) (ha : s.arrayAt? a = some cl) (h : (Term.length t).eval a0 s none [] s = some (.int z)) : cl.slots.size < 2 ^ 31 ∧ cl.slots.size.toInt32 = z := by
  by_cases hl : cl.slots.size < 2 ^ 31
  · rw [len_f ht ha hl] at h
    exact ⟨hl, by simpa using h⟩
  · have hl' : ¬ cl.slots.size < 2147483648 := hl
    simp [Term.eval, ht, ha, hl'] at h
theorem own_sub {a0 : Array Value} {t u : Term} {idx : List Nat} {x y : Int32} (h1 : t.eval a0 s none idx s = some (.int x)) (h2 : u.eval a0 s none idx s = some (.int y)) : (Term.sub t u).eval a0 s none idx s = some (.int (x - y)) := by simp [Term.eval, h1, h2]
theorem own_eqx {a0 : Array Value} {t u : Term} {b : Addr} (eu : u.eval a0 s none [] s = some (.ref b)) (h : (Jvm.Cond.eq t u).value a0 s none s [] = some true) : t.eval a0 s none [] s = some (.ref b) := by
  obtain ⟨x, y, h1, h2, h3, -⟩ := cmp_v (Or.inl h)
  cases eu.symm.trans h2
  have hr : x.isRef = true := by cases x <;> simp [Kin, Value.isRef] at h3 ⊢
  have q := gotT (eq_R h1 eu hr rfl) h
  subst q
  exact h1
theorem own_eqr {a0 : Array Value} {C n d : String} {t u : Term} {a b : Addr} (ev : t.eval a0 s none [] s = some (.ref a)) (eu : u.eval a0 s none [] s = some (.ref b)) (h : (Jvm.Cond.eq (.field t C n d) u).value a0 s none s [] = some true) : Fld s s.heap a C n d (.ref b) := by
  obtain ⟨x, y, h1, h2, h3, -⟩ := cmp_v (Or.inl h)
  cases eu.symm.trans h2
  have hr : x.isRef = true := by cases x <;> simp [Kin, Value.isRef] at h3 ⊢
  have q := gotT (eq_R h1 eu hr rfl) h
  subst q
  exact Fld.start ((fld_at ev).symm.trans h1)
end Own
abbrev own_M (l : Launch) (y : MethodName) (code : ByteArray) (ml : Nat) (ret : Option FieldType) (ws : List Jvm.Cond) (rm : Room) (a1 : Array Value) (Z : State) (h0 : Heap) (Q : Option Value → Heap → List Loc → Prop) : Prop := MetFree l y (head1 (Jvm.Cond.code y code ml ret :: ws) rm) (fun as_ U => as_ = a1 ∧ Z.Warmed39 U.vm ∧ U.heap = h0) (fun _ _ _ _ _ => True) (fun _ U out_ U' => ∃ v L, out_ = .returned v ∧ Q v U'.heap L ∧ FrameEnd U out_ U' L rm.cells rm.slots)
def oL (c : ByteArray) (l : List (Nat × Instr × Nat)) : Prop := ∀ x ∈ l, decode c x.1 = .ok (x.2.1, x.2.2)
theorem od {c : ByteArray} {l : List (Nat × Instr × Nat)} (h : oL c l) (i : Nat) {pc n : Nat} {q : Instr} (e : l[i]? = some (pc, q, n)) : decode c pc = .ok (q, n) := h (pc, q, n) (List.mem_of_getElem? e)
theorem own_start {p : Program} {l : Launch} {x : MethodName} {S : Spec} {code : ByteArray} {maxL : Nat} {ret : Option FieldType} {e : Env} {s : State} {m : MethodId} {args : Array Value} {below : List Frame} {meth : Method} {c : Code} {s₁ : State} {h0 : Heap} {R : Room} (Bd : BodyLoose p l x S code maxL ret e s m args below meth c s₁) (hh : s.heap = h0) (hR : S.room = R) : Stand p l e R s m args below meth c s₁ [] 0 0 ∧ s₁.heap = h0 ∧ (p.tables.exec = Jvm.exec ∧ c.code = code) ∧ meth.locks = false ∧ s.vm.findClass x.cls = some m.cls ∧ meth.sig.returnType = ret := ⟨hR ▸ Stand.of_body Bd, by rw [← hh, Bd.state]; rfl, ⟨Bd.exec, Bd.bytes⟩, BodyLoose.notSynchronized Bd, findClass_of_methodNamed Bd.named, Bd.returns⟩
section OwnX
variable {p : Program} {l : Launch} {e : Env} {R : Room} {s : State} {m : MethodId} {args : Array Value} {below : List Frame} {meth : Method} {c : Code} {T : State} {locs : List Loc} {cells slots : Nat} {P : Outcome → State → Prop} {code : ByteArray} {pc : Nat} {L : Array Slot} {S : List Value}
theorem o_ildN (X : Stand p l e R s m args below meth c T locs cells slots) (H : p.tables.exec = Jvm.exec ∧ c.code = code) {k : Fin 4} {v : Int32} (d : decode code pc = .ok (.iload_n k, 1)) (hl : L[k.val]? = some (.val (.int v))) (h : own_Fin p e below P (T.setTop (mkF m (pc + 1) L (.int v :: S)))) : own_Fin p e below P (T.setTop (mkF m pc L (S))) := own_on (fun _ q => XS.iloadN X.here H.1 rfl (hb H.2 d) hl q) h
theorem o_ild (X : Stand p l e R s m args below meth c T locs cells slots) (H : p.tables.exec = Jvm.exec ∧ c.code = code) {k : Nat} {v : Int32} (d : decode code pc = .ok (.iload k, 2)) (hl : L[k]? = some (.val (.int v))) (h : own_Fin p e below P (T.setTop (mkF m (pc + 2) L (.int v :: S)))) : own_Fin p e below P (T.setTop (mkF m pc L (S))) := own_on (fun _ q => XS.iload X.here H.1 rfl (hb H.2 d) hl q) h
theorem o_istN (X : Stand p l e R s m args below meth c T locs cells slots) (H : p.tables.exec = Jvm.exec ∧ c.code = code) {k : Fin 4} {v : Int32} {L' : Array Slot} (d : decode code pc = .ok (.istore_n k, 1)) (hl : storeLocals L k.val (.int v) = some L') (h : own_Fin p e below P (T.setTop (mkF m (pc + 1) L' (S)))) : own_Fin p e below P (T.setTop (mkF m pc L (.int v :: S))) := own_on (fun _ q => XS.istoreN X.here H.1 rfl (hb H.2 d) rfl hl q) h
theorem o_ist (X : Stand p l e R s m args below meth c T locs cells slots) (H : p.tables.exec = Jvm.exec ∧ c.code = code) {k : Nat} {v : Int32} {L' : Array Slot} (d : decode code pc = .ok (.istore k, 2)) (hl : storeLocals L k (.int v) = some L') (h : own_Fin p e below P (T.setTop (mkF m (pc + 2) L' (S)))) : own_Fin p e below P (T.setTop (mkF m pc L (.int v :: S))) := own_on (fun _ q => XS.istore X.here H.1 rfl (hb H.2 d) rfl hl q) h
theorem o_lldN (X : Stand p l e R s m args below meth c T locs cells slots) (H : p.tables.exec = Jvm.exec ∧ c.code = code) {k : Fin 4} {v : Int64} (d : decode code pc = .ok (.lload_n k, 1)) (hl : L[k.val]? = some (.val (.long v))) (h : own_Fin p e below P (T.setTop (mkF m (pc + 1) L (.long v :: S)))) : own_Fin p e below P (T.setTop (mkF m pc L (S))) := own_on (fun _ q => XS.lloadN X.here H.1 rfl (hb H.2 d) hl q) h
theorem o_lld (X : Stand p l e R s m args below meth c T locs cells slots) (H : p.tables.exec = Jvm.exec ∧ c.code = code) {k : Nat} {v : Int64} (d : decode code pc = .ok (.lload k, 2)) (hl : L[k]? = some (.val (.long v))) (h : own_Fin p e below P (T.setTop (mkF m (pc + 2) L (.long v :: S)))) : own_Fin p e below P (T.setTop (mkF m pc L (S))) := own_on (fun _ q => XS.lload X.here H.1 rfl (hb H.2 d) hl q) h
theorem o_lstN (X : Stand p l e R s m args below meth c T locs cells slots) (H : p.tables.exec = Jvm.exec ∧ c.code = code) {k : Fin 4} {v : Int64} {L' : Array Slot} (d : decode code pc = .ok (.lstore_n k, 1)) (hl : storeLocals L k.val (.long v) = some L') (h : own_Fin p e below P (T.setTop (mkF m (pc + 1) L' (S)))) : own_Fin p e below P (T.setTop (mkF m pc L (.long v :: S))) := own_on (fun _ q => XS.lstoreN X.here H.1 rfl (hb H.2 d) rfl hl q) h
theorem o_lst (X : Stand p l e R s m args below meth c T locs cells slots) (H : p.tables.exec = Jvm.exec ∧ c.code = code) {k : Nat} {v : Int64} {L' : Array Slot} (d : decode code pc = .ok (.lstore k, 2)) (hl : storeLocals L k (.long v) = some L') (h : own_Fin p e below P (T.setTop (mkF m (pc + 2) L' (S)))) : own_Fin p e below P (T.setTop (mkF m pc L (.long v :: S))) := own_on (fun _ q => XS.lstore X.here H.1 rfl (hb H.2 d) rfl hl q) h
theorem o_aldN (X : Stand p l e R s m args below meth c T locs cells slots) (H : p.tables.exec = Jvm.exec ∧ c.code = code) {k : Fin 4} {v : Value} (d : decode code pc = .ok (.aload_n k, 1)) (hl : L[k.val]? = some (.val v)) (hv : v.isRef = true) (h : own_Fin p e below P (T.setTop (mkF m (pc + 1) L (v :: S)))) : own_Fin p e below P (T.setTop (mkF m pc L (S))) := own_on (fun _ q => XS.aloadN X.here H.1 rfl (hb H.2 d) hl hv q) h
theorem o_ald (X : Stand p l e R s m args below meth c T locs cells slots) (H : p.tables.exec = Jvm.exec ∧ c.code = code) {k : Nat} {v : Value} (d : decode code pc = .ok (.aload k, 2)) (hl : L[k]? = some (.val v)) (hv : v.isRef = true) (h : own_Fin p e below P (T.setTop (mkF m (pc + 2) L (v :: S)))) : own_Fin p e below P (T.setTop (mkF m pc L (S))) := own_on (fun _ q => XS.aload X.here H.1 rfl (hb H.2 d) hl hv q) h
theorem o_astN (X : Stand p l e R s m args below meth c T locs cells slots) (H : p.tables.exec = Jvm.exec ∧ c.code = code) {k : Fin 4} {v : Value} {L' : Array Slot} (d : decode code pc = .ok (.astore_n k, 1)) (hv : v.isRef = true) (hl : storeLocals L k.val v = some L') (h : own_Fin p e below P (T.setTop (mkF m (pc + 1) L' (S)))) : own_Fin p e below P (T.setTop (mkF m pc L (v :: S))) := own_on (fun _ q => XS.astoreN X.here H.1 rfl (hb H.2 d) rfl hv hl q) h
theorem o_ast (X : Stand p l e R s m args below meth c T locs cells slots) (H : p.tables.exec = Jvm.exec ∧ c.code = code) {k : Nat} {v : Value} {L' : Array Slot} (d : decode code pc = .ok (.astore k, 2)) (hv : v.isRef = true) (hl : storeLocals L k v = some L') (h : own_Fin p e below P (T.setTop (mkF m (pc + 2) L' (S)))) : own_Fin p e below P (T.setTop (mkF m pc L (v :: S))) := own_on (fun _ q => XS.astore X.here H.1 rfl (hb H.2 d) rfl hv hl q) h
theorem o_ic (X : Stand p l e R s m args below meth c T locs cells slots) (H : p.tables.exec = Jvm.exec ∧ c.code = code) {i : Int} {v : Int32} (d : decode code pc = .ok (.iconst i, 1)) (hv : Int32.ofInt i = v) (h : own_Fin p e below P (T.setTop (mkF m (pc + 1) L (.int v :: S)))) : own_Fin p e below P (T.setTop (mkF m pc L S)) := by subst hv; exact own_on (fun _ q => XS.iconst X.here H.1 rfl (hb H.2 d) q) h
theorem o_bi (X : Stand p l e R s m args below meth c T locs cells slots) (H : p.tables.exec = Jvm.exec ∧ c.code = code) {i : Int} {v : Int32} (d : decode code pc = .ok (.bipush i, 2)) (hv : (Int8.ofInt i).toInt32 = v) (h : own_Fin p e below P (T.setTop (mkF m (pc + 2) L (.int v :: S)))) : own_Fin p e below P (T.setTop (mkF m pc L S)) := by subst hv; exact own_on (fun _ q => XS.bipush X.here H.1 rfl (hb H.2 d) q) h
theorem o_si (X : Stand p l e R s m args below meth c T locs cells slots) (H : p.tables.exec = Jvm.exec ∧ c.code = code) {i : Int} {v : Int32} (d : decode code pc = .ok (.sipush i, 3)) (hv : (Int16.ofInt i).toInt32 = v) (h : own_Fin p e below P (T.setTop (mkF m (pc + 3) L (.int v :: S)))) : own_Fin p e below P (T.setTop (mkF m pc L S)) := by subst hv; exact own_on (fun _ q => XS.sipush X.here H.1 rfl (hb H.2 d) q) h
theorem o_nul (X : Stand p l e R s m args below meth c T locs cells slots) (H : p.tables.exec = Jvm.exec ∧ c.code = code)  (d : decode code pc = .ok (.aconst_null, 1))  (h : own_Fin p e below P (T.setTop (mkF m (pc + 1) L (.null :: S)))) : own_Fin p e below P (T.setTop (mkF m pc L (S))) := own_on (fun _ q => XS.aconstNull X.here H.1 rfl (hb H.2 d) q) h
theorem o_iadd (X : Stand p l e R s m args below meth c T locs cells slots) (H : p.tables.exec = Jvm.exec ∧ c.code = code) {x y : Int32} (d : decode code pc = .ok (.iadd, 1))  (h : own_Fin p e below P (T.setTop (mkF m (pc + 1) L (.int (x + y) :: S)))) : own_Fin p e below P (T.setTop (mkF m pc L (.int y :: .int x :: S))) := own_on (fun _ q => XS.iadd X.here H.1 rfl (hb H.2 d) rfl q) h
theorem o_isub (X : Stand p l e R s m args below meth c T locs cells slots) (H : p.tables.exec = Jvm.exec ∧ c.code = code) {x y : Int32} (d : decode code pc = .ok (.isub, 1))  (h : own_Fin p e below P (T.setTop (mkF m (pc + 1) L (.int (x - y) :: S)))) : own_Fin p e below P (T.setTop (mkF m pc L (.int y :: .int x :: S))) := own_on (fun _ q => XS.isub X.here H.1 rfl (hb H.2 d) rfl q) h
theorem o_iand (X : Stand p l e R s m args below meth c T locs cells slots) (H : p.tables.exec = Jvm.exec ∧ c.code = code) {x y : Int32} (d : decode code pc = .ok (.iand, 1))  (h : own_Fin p e below P (T.setTop (mkF m (pc + 1) L (.int (x &&& y) :: S)))) : own_Fin p e below P (T.setTop (mkF m pc L (.int y :: .int x :: S))) := own_on (fun _ q => XS.iand X.here H.1 rfl (hb H.2 d) rfl q) h
theorem o_dup (X : Stand p l e R s m args below meth c T locs cells slots) (H : p.tables.exec = Jvm.exec ∧ c.code = code) {x : Value} (d : decode code pc = .ok (.dup, 1)) (hc : x.category = 1) (h : own_Fin p e below P (T.setTop (mkF m (pc + 1) L (x :: x :: S)))) : own_Fin p e below P (T.setTop (mkF m pc L (x :: S))) := own_on (fun _ q => XS.dup X.here H.1 rfl (hb H.2 d) rfl hc q) h
theorem o_pop (X : Stand p l e R s m args below meth c T locs cells slots) (H : p.tables.exec = Jvm.exec ∧ c.code = code) {x : Value} (d : decode code pc = .ok (.pop, 1)) (hc : x.category = 1) (h : own_Fin p e below P (T.setTop (mkF m (pc + 1) L (S)))) : own_Fin p e below P (T.setTop (mkF m pc L (x :: S))) := own_on (fun _ q => XS.pop X.here H.1 rfl (hb H.2 d) rfl hc q) h
theorem o_go (X : Stand p l e R s m args below meth c T locs cells slots) (H : p.tables.exec = Jvm.exec ∧ c.code = code)  {o : Int} {pc' : Nat} (d : decode code pc = .ok (.goto o, 3))  (ho : 0 ≤ (pc : Int) + o) (hp : ((pc : Int) + o).toNat = pc') (h : own_Fin p e below P (T.setTop (mkF m pc' L S))) : own_Fin p e below P (T.setTop (mkF m pc L (S))) := own_on (fun _ q => XS.goto X.here H.1 rfl rfl (hb H.2 d) ho hp q) h
theorem o_ifY (X : Stand p l e R s m args below meth c T locs cells slots) (H : p.tables.exec = Jvm.exec ∧ c.code = code) {cc : ClassFile.Cond} {x : Int32} {o : Int} {pc' : Nat} (d : decode code pc = .ok (.ifCond cc o, 3)) (hc : ifCond.holds cc x = true) (ho : 0 ≤ (pc : Int) + o) (hp : ((pc : Int) + o).toNat = pc') (h : own_Fin p e below P (T.setTop (mkF m pc' L S))) : own_Fin p e below P (T.setTop (mkF m pc L (.int x :: S))) := own_on (fun _ q => XS.ifYes X.here H.1 rfl rfl (hb H.2 d) rfl hc ho hp q) h
theorem o_icY (X : Stand p l e R s m args below meth c T locs cells slots) (H : p.tables.exec = Jvm.exec ∧ c.code = code) {cc : ClassFile.Cond} {x y : Int32} {o : Int} {pc' : Nat} (d : decode code pc = .ok (.if_icmp cc o, 3)) (hc : if_icmp.holds cc x y = true) (ho : 0 ≤ (pc : Int) + o) (hp : ((pc : Int) + o).toNat = pc') (h : own_Fin p e below P (T.setTop (mkF m pc' L S))) : own_Fin p e below P (T.setTop (mkF m pc L (.int y :: .int x :: S))) := own_on (fun _ q => XS.icmpYes X.here H.1 rfl rfl (hb H.2 d) rfl hc ho hp q) h
theorem o_ifN (X : Stand p l e R s m args below meth c T locs cells slots) (H : p.tables.exec = Jvm.exec ∧ c.code = code) {cc : ClassFile.Cond} {o : Int} {x : Int32} (d : decode code pc = .ok (.ifCond cc o, 3)) (hc : ifCond.holds cc x = false) (h : own_Fin p e below P (T.setTop (mkF m (pc + 3) L (S)))) : own_Fin p e below P (T.setTop (mkF m pc L (.int x :: S))) := own_on (fun _ q => XS.ifNo X.here H.1 rfl (hb H.2 d) rfl hc q) h
theorem o_icN (X : Stand p l e R s m args below meth c T locs cells slots) (H : p.tables.exec = Jvm.exec ∧ c.code = code) {cc : ClassFile.Cond} {o : Int} {x y : Int32} (d : decode code pc = .ok (.if_icmp cc o, 3)) (hc : if_icmp.holds cc x y = false) (h : own_Fin p e below P (T.setTop (mkF m (pc + 3) L (S)))) : own_Fin p e below P (T.setTop (mkF m pc L (.int y :: .int x :: S))) := own_on (fun _ q => XS.icmpNo X.here H.1 rfl (hb H.2 d) rfl hc q) h
theorem o_gf (X : Stand p l e R s m args below meth c T locs cells slots) (H : p.tables.exec = Jvm.exec ∧ c.code = code) {Z : State} {a0 : Array Value} {hp : Heap} (hZ : Z.Warmed39 s.vm) {own R0 O n d0 : String} {index : Nat} (hown : s.vm.findClass own = some m.cls) (w : (Cond.fieldLink own index R0 n d0).before a0 Z = true) (via : Via Z R0 O n d0) (eT : T.heap = hp) {a : Addr} {v : Value} (F : Fld Z hp a O n d0 v) (d : decode code pc = .ok (.getfield index, 3)) (h : ∀ T' : State, Stand p l e R s m args below meth c T' locs cells slots → T'.heap = hp → own_Fin p e below P (T'.setTop (mkF m (pc + 3) L (v :: S)))) : own_Fin p e below P (T.setTop (mkF m pc L (.ref a :: S))) := by
  obtain ⟨T', X', e', st⟩ := getF X H.1 hZ hown (host := "") (Or.inl w) via eT F (g := mkF m pc L (.ref a :: S)) rfl rfl (hb H.2 d)
  exact own_on st (h T' X' e')
theorem o_gs (X : Stand p l e R s m args below meth c T locs cells slots) (H : p.tables.exec = Jvm.exec ∧ c.code = code) {Z : State} {a0 : Array Value} {hp : Heap} (hZ : Z.Warmed39 s.vm) {own R0 O n d0 : String} {index : Nat} (hown : s.vm.findClass own = some m.cls) (w : (Cond.fieldLink own index R0 n d0).before a0 Z = true) (via : Via Z R0 O n d0) (eT : T.heap = hp) {v : Value} (F : Sta Z hp O n d0 v) (d : decode code pc = .ok (.getstatic index, 3)) (h : ∀ T' : State, Stand p l e R s m args below meth c T' locs cells slots → T'.heap = hp → own_Fin p e below P (T'.setTop (mkF m (pc + 3) L (v :: S)))) : own_Fin p e below P (T.setTop (mkF m pc L S)) := by
  obtain ⟨T', X', e', st⟩ := getS2 X H.1 hZ hown (host := "") (Or.inl w) via eT F (g := mkF m pc L S) rfl (hb H.2 d)
  exact own_on st (h T' X' e')
theorem o_bk {Q : Option Value → Heap → List Loc → Prop} {k j : Nat} {stk rest : List Value} {Sw : Vm → Prop} (R1 : ∃ (v : Option Value) (vm₁ : Vm) (B : Pt), Sw vm₁ ∧ Stand p l e R s m args below meth c B.U B.locs B.cells B.slots ∧ (∃ Lc, Q v B.U.heap Lc ∧ B.locs = locs ++ Lc ∧ B.cells = cells + k ∧ B.slots = slots + j) ∧ Steps p.tables e below (T.setTop (mkF m pc L stk)) (B.U.setTop { (mkF m pc L stk) with pc := (mkF m pc L stk).pc + 3, stack := v.toList ++ rest }))
    (h : ∀ (v : Option Value) (T' : State) (Lc : List Loc), Stand p l e R s m args below meth c T' (locs ++ Lc) (cells + k) (slots + j) → Q v T'.heap Lc → own_Fin p e below P (T'.setTop (mkF m (pc + 3) L (v.toList ++ rest)))) : own_Fin p e below P (T.setTop (mkF m pc L stk)) := by
  obtain ⟨v, vm₁, ⟨T', L', k', j'⟩, -, X', ⟨Lc, hQ, l1, y1, z1⟩, st⟩ := R1
  dsimp only [Pt.U, Pt.locs, Pt.cells, Pt.slots] at X' l1 y1 z1 st hQ
  subst l1 y1 z1
  exact own_via st (h v T' Lc X' hQ)
theorem o_bs {Q : Option Value → Heap → List Loc → Prop} {k j : Nat} {stk rest : List Value} {Sw : Vm → Prop} (R1 : ∃ (v : Option Value) (vm₁ : Vm) (B : Pt), Sw vm₁ ∧ Stand p l e R s m args below meth c B.U B.locs B.cells B.slots ∧ (∃ Lc, Q v B.U.heap Lc ∧ B.locs = locs ++ Lc ∧ B.cells = cells + k ∧ B.slots = slots + j) ∧ ∀ target, Steps p.tables e below (B.U.setTop { (mkF m pc L stk) with pc := (mkF m pc L stk).pc + 3, stack := v.toList ++ rest }) target → Steps p.tables e below (T.setTop (mkF m pc L stk)) target)
    (h : ∀ (v : Option Value) (T' : State) (Lc : List Loc), Stand p l e R s m args below meth c T' (locs ++ Lc) (cells + k) (slots + j) → Q v T'.heap Lc → own_Fin p e below P (T'.setTop (mkF m (pc + 3) L (v.toList ++ rest)))) : own_Fin p e below P (T.setTop (mkF m pc L stk)) := by
  obtain ⟨v, vm₁, ⟨T', L', k', j'⟩, hs, X', q, st⟩ := R1
  exact o_bk ⟨v, vm₁, ⟨T', L', k', j'⟩, hs, X', q, st _ (Steps.refl _)⟩ h
theorem o_mr {m0 : MethodId} {rest : List Value} {W : Nat} (h : (rest.map fun v => v.category).sum = W) : 2 * (mkF m0 pc L S).monitorRoom + (rest.map fun v => v.category).sum ≤ W := by
  show 2 * 0 + _ ≤ _; rw [h, Nat.mul_zero, Nat.zero_add]; exact Nat.le_refl _
end OwnX
section OwnY
variable {p : Program} {l : Launch} {e : Env} {R : Room} {s : State} {m : MethodId} {args : Array Value} {below : List Frame} {meth : Method} {c : Code} {T : State} {locs : List Loc} {cells slots : Nat} {P : Outcome → State → Prop} {code : ByteArray} {pc n : Nat} {L : Array Slot} {stk : List Value} {Z : State} {a0 : Array Value} {hp : Heap} {own : String} {index : Nat} {y z : MethodName} {as' : Array Value} {W k j : Nat} {Q : Option Value → Heap → List Loc → Prop} {argsL rest : List Value} {sig : MethodDescriptor}
theorem o_vc {C : String} {b : Addr} (X : Stand p l e R s m args below meth c T locs cells slots) (H : p.tables.exec = Jvm.exec ∧ c.code = code) (hml : c.maxLocals = n) (hZ : Z.Warmed39 s.vm) (hown : s.vm.findClass own = some m.cls) (w1 : (Cond.methodLink own index y).before a0 Z = true) (w2 : (Cond.declares y).before a0 Z = true) (nf : NotFace s y) (w3 : (Cond.selects C y z).before a0 Z = true) (w4 : (Cond.instanceMethod z).before a0 Z = true)
    (back : Back l R p e below s args z 3 W (fun A a => a = as' ∧ A.U.heap = hp ∧ A.cells + k ≤ R.cells ∧ A.slots + j ≤ R.slots) (fun A _ v B => ∃ Lc, Q v B.U.heap Lc ∧ B.locs = A.locs ++ Lc ∧ B.cells = A.cells + k ∧ B.slots = A.slots + j)) (hy : y.cls ≠ "java/lang/invoke/MethodHandle" ∧ y.cls ≠ "java/lang/invoke/VarHandle")
    (E : Exa Z hp b C) (eT : T.heap = hp) (hpd : parseMethodDescriptor y.desc = some sig) (d : decode code pc = .ok (.invokevirtual index, 3)) (hlen : argsL.length = sig.parameters.length) (hs : stk = argsL.reverse ++ .ref b :: rest) (ha : (.ref b :: argsL).toArray = as') (hL : L.size = n) (hW : (rest.map fun v => v.category).sum = W) (hc : cells + k ≤ R.cells) (hsl : slots + j ≤ R.slots)
    (h : ∀ (v : Option Value) (T' : State) (Lc : List Loc), Stand p l e R s m args below meth c T' (locs ++ Lc) (cells + k) (slots + j) → Q v T'.heap Lc → own_Fin p e below P (T'.setTop (mkF m (pc + 3) L (v.toList ++ rest)))) : own_Fin p e below P (T.setTop (mkF m pc L stk)) := by
  obtain ⟨cq, kq, qa, qb, qc⟩ := isOf hZ eT E
  refine o_bk (X.virtualBack H.1 hown (mvT hZ w1) (mvT hZ w2) nf (mvT hZ w3) (mvT hZ w4) hy back qa qc (g := mkF m pc L stk) rfl (hL.trans hml.symm) (Steps.refl _) (argsL := argsL) (rest := rest) (lenOf hpd hlen) hs (o_mr hW) (hb H.2 d) (fun _ _ => ⟨ha, eT, hc, hsl⟩)) h
theorem o_vs {C : String} {b : Addr} (X : Stand p l e R s m args below meth c T locs cells slots) (H : p.tables.exec = Jvm.exec ∧ c.code = code) (hml : c.maxLocals = n) (hZ : Z.Warmed39 s.vm) (hown : s.vm.findClass own = some m.cls) (w1 : (Cond.methodLink own index y).before a0 Z = true) (w2 : (Cond.declares y).before a0 Z = true) (w3 : (Cond.selects C y y).before a0 Z = true) (w4 : (Cond.instanceMethod y).before a0 Z = true)
    (back : Back l R p e below s args y 3 W (fun A a => a = as' ∧ A.U.heap = hp ∧ A.cells + k ≤ R.cells ∧ A.slots + j ≤ R.slots) (fun A _ v B => ∃ Lc, Q v B.U.heap Lc ∧ B.locs = A.locs ++ Lc ∧ B.cells = A.cells + k ∧ B.slots = A.slots + j)) (hy : y.cls ≠ "java/lang/invoke/MethodHandle" ∧ y.cls ≠ "java/lang/invoke/VarHandle")
    (E : Exa Z hp b C) (eT : T.heap = hp) (hpd : parseMethodDescriptor y.desc = some sig) (d : decode code pc = .ok (.invokevirtual index, 3)) (hlen : argsL.length = sig.parameters.length) (hs : stk = argsL.reverse ++ .ref b :: rest) (ha : (.ref b :: argsL).toArray = as') (hL : L.size = n) (hW : (rest.map fun v => v.category).sum = W) (hc : cells + k ≤ R.cells) (hsl : slots + j ≤ R.slots)
    (h : ∀ (v : Option Value) (T' : State) (Lc : List Loc), Stand p l e R s m args below meth c T' (locs ++ Lc) (cells + k) (slots + j) → Q v T'.heap Lc → own_Fin p e below P (T'.setTop (mkF m (pc + 3) L (v.toList ++ rest)))) : own_Fin p e below P (T.setTop (mkF m pc L stk)) := o_vc X H hml hZ hown w1 w2 (notFace_of_selects (args := #[]) (mvT hZ w3)) w3 w4 back hy E eT hpd d hlen hs ha hL hW hc hsl h
theorem o_pc {bytes : ByteArray} {maxL : Nat} {ret : Option FieldType} {C : String} {b : Addr} (X : Stand p l e R s m args below meth c T locs cells slots) (H : p.tables.exec = Jvm.exec ∧ c.code = code) (hml : c.maxLocals = n) (hZ : Z.Warmed39 s.vm) (hown : s.vm.findClass own = some m.cls) (w1 : (Cond.methodLink own index y).before a0 Z = true) (w2 : (Cond.instanceMethod y).before a0 Z = true) (w3 : (Cond.selects y.cls y y).before args s = true) (w4 : (Cond.privateMethod y).before a0 Z = true) (w5 : (Cond.code y bytes maxL ret).before a0 Z = true)
    (back : Back l R p e below s args y 3 W (fun A a => a = as' ∧ A.U.heap = hp ∧ A.cells + k ≤ R.cells ∧ A.slots + j ≤ R.slots) (fun A _ v B => ∃ Lc, Q v B.U.heap Lc ∧ B.locs = A.locs ++ Lc ∧ B.cells = A.cells + k ∧ B.slots = A.slots + j)) (hy : y.cls ≠ "java/lang/invoke/MethodHandle" ∧ y.cls ≠ "java/lang/invoke/VarHandle")
    (E : Exa Z hp b C) (eT : T.heap = hp) (hpd : parseMethodDescriptor y.desc = some sig) (d : decode code pc = .ok (.invokevirtual index, 3)) (hlen : argsL.length = sig.parameters.length) (hs : stk = argsL.reverse ++ .ref b :: rest) (ha : (.ref b :: argsL).toArray = as') (hL : L.size = n) (hW : (rest.map fun v => v.category).sum = W) (hc : cells + k ≤ R.cells) (hsl : slots + j ≤ R.slots)
    (h : ∀ (v : Option Value) (T' : State) (Lc : List Loc), Stand p l e R s m args below meth c T' (locs ++ Lc) (cells + k) (slots + j) → Q v T'.heap Lc → own_Fin p e below P (T'.setTop (mkF m (pc + 3) L (v.toList ++ rest)))) : own_Fin p e below P (T.setTop (mkF m pc L stk)) := by
  obtain ⟨cq, q, q'⟩ := E.cell
  refine o_bk (X.privateBack H.1 hown (mvT hZ w1) (mvT hZ w2) w3 (Cond.privateMethod_at (mvP hZ w4 (args := #[]))) (mvT hZ w5) hy back (g := mkF m pc L stk) rfl (hL.trans hml.symm) (Steps.refl _) (a := b) (by rw [eT]; exact q) q' (argsL := argsL) (rest := rest) (lenOf hpd hlen) hs (o_mr hW) (hb H.2 d) (fun _ _ => ⟨ha, eT, hc, hsl⟩)) h
theorem o_sc {bytes : ByteArray} {maxL : Nat} {b : Addr} (X : Stand p l e R s m args below meth c T locs cells slots) (H : p.tables.exec = Jvm.exec ∧ c.code = code) (hml : c.maxLocals = n) (hZ : Z.Warmed39 s.vm) (hown : s.vm.findClass own = some m.cls) (w1 : (Cond.methodLink own index y).before a0 Z = true) (w2 : (Cond.instanceMethod y).before a0 Z = true) (w5 : (Cond.code y bytes maxL none).before a0 Z = true)
    (back : Back l R p e below s args y 3 W (fun A a => a = as' ∧ A.U.heap = hp ∧ A.cells + k ≤ R.cells ∧ A.slots + j ≤ R.slots) (fun A _ v B => ∃ Lc, Q v B.U.heap Lc ∧ B.locs = A.locs ++ Lc ∧ B.cells = A.cells + k ∧ B.slots = A.slots + j)) (hy0 : y.name = "<init>") (hy : y.cls ≠ "java/lang/invoke/MethodHandle" ∧ y.cls ≠ "java/lang/invoke/VarHandle")
    (eT : T.heap = hp) (hpd : parseMethodDescriptor y.desc = some sig) (d : decode code pc = .ok (.invokespecial index, 3)) (hlen : argsL.length = sig.parameters.length) (hs : stk = argsL.reverse ++ .ref b :: rest) (ha : (.ref b :: argsL).toArray = as') (hL : L.size = n) (hW : (rest.map fun v => v.category).sum = W) (hc : cells + k ≤ R.cells) (hsl : slots + j ≤ R.slots)
    (h : ∀ (v : Option Value) (T' : State) (Lc : List Loc), Stand p l e R s m args below meth c T' (locs ++ Lc) (cells + k) (slots + j) → Q v T'.heap Lc → own_Fin p e below P (T'.setTop (mkF m (pc + 3) L (v.toList ++ rest)))) : own_Fin p e below P (T.setTop (mkF m pc L stk)) := by
  refine o_bk (X.specialBack H.1 hy0 hown (mvT hZ w1) (mvT hZ w2) (mvT hZ w5) hy back (g := mkF m pc L stk) rfl (hL.trans hml.symm) (Steps.refl _) (a := b) (argsL := argsL) (rest := rest) (lenOf hpd hlen) hs (o_mr hW) (hb H.2 d) (fun _ _ => ⟨ha, eT, hc, hsl⟩)) h
theorem o_tc {bytes : ByteArray} {maxL : Nat} {ret : Option FieldType} (X : Stand p l e R s m args below meth c T locs cells slots) (H : p.tables.exec = Jvm.exec ∧ c.code = code) (hml : c.maxLocals = n) (hZ : Z.Warmed39 s.vm) (hown : s.vm.findClass own = some m.cls) (w1 : (Cond.methodLink own index y).before a0 Z = true) (w2 : (Cond.static y).before a0 Z = true) (w3 : (Cond.initialized y.cls).before a0 Z = true) (w5 : (Cond.code y bytes maxL ret).before a0 Z = true)
    (back : Back l R p e below s args y 3 W (fun A a => a = as' ∧ A.U.heap = hp ∧ A.cells + k ≤ R.cells ∧ A.slots + j ≤ R.slots) (fun A _ v B => ∃ Lc, Q v B.U.heap Lc ∧ B.locs = A.locs ++ Lc ∧ B.cells = A.cells + k ∧ B.slots = A.slots + j)) (hy : y.cls ≠ "java/lang/invoke/MethodHandle" ∧ y.cls ≠ "java/lang/invoke/VarHandle")
    (eT : T.heap = hp) (hpd : parseMethodDescriptor y.desc = some sig) (d : decode code pc = .ok (.invokestatic index, 3)) (hlen : argsL.length = sig.parameters.length) (hs : stk = argsL.reverse ++ rest) (ha : argsL.toArray = as') (hL : L.size = n) (hW : (rest.map fun v => v.category).sum = W) (hc : cells + k ≤ R.cells) (hsl : slots + j ≤ R.slots)
    (h : ∀ (v : Option Value) (T' : State) (Lc : List Loc), Stand p l e R s m args below meth c T' (locs ++ Lc) (cells + k) (slots + j) → Q v T'.heap Lc → own_Fin p e below P (T'.setTop (mkF m (pc + 3) L (v.toList ++ rest)))) : own_Fin p e below P (T.setTop (mkF m pc L stk)) := by
  refine o_bs (Jvm.LawKit.callS X H.1 hown (mvT hZ w1) (mvT hZ w2) (mvT hZ w3) (mvT hZ w5) hy back (g := mkF m pc L stk) rfl (hL.trans hml.symm) (argsL := argsL) (rest := rest) (lenOf hpd hlen) hs (o_mr hW) (hb H.2 d) (fun _ _ => ⟨ha, eT, hc, hsl⟩)) h
theorem o_pk {n0 : Nat} {w : Value} (hq : ∀ v h L, Q v h L → v = some w ∧ Fr n0 L ∧ h = hp) (N : Fr n0 locs) (h : ∀ (T' : State) (Lc : List Loc), Stand p l e R s m args below meth c T' (locs ++ Lc) (cells + k) (slots + j) → Fr n0 (locs ++ Lc) → T'.heap = hp → own_Fin p e below P (T'.setTop (mkF m (pc + 3) L (w :: rest)))) : ∀ (v : Option Value) (T' : State) (Lc : List Loc), Stand p l e R s m args below meth c T' (locs ++ Lc) (cells + k) (slots + j) → Q v T'.heap Lc → own_Fin p e below P (T'.setTop (mkF m (pc + 3) L (v.toList ++ rest))) := fun v T' Lc X' q => by
  obtain ⟨rfl, N', e'⟩ := hq _ _ _ q
  exact h T' Lc X' (Fr.app N N') e'
theorem o_pv {n0 : Nat} (hq : ∀ v h L, Q v h L → v = none ∧ Fr n0 L ∧ h = hp) (N : Fr n0 locs) (h : ∀ (T' : State) (Lc : List Loc), Stand p l e R s m args below meth c T' (locs ++ Lc) (cells + k) (slots + j) → Fr n0 (locs ++ Lc) → T'.heap = hp → own_Fin p e below P (T'.setTop (mkF m (pc + 3) L rest))) : ∀ (v : Option Value) (T' : State) (Lc : List Loc), Stand p l e R s m args below meth c T' (locs ++ Lc) (cells + k) (slots + j) → Q v T'.heap Lc → own_Fin p e below P (T'.setTop (mkF m (pc + 3) L (v.toList ++ rest))) := fun v T' Lc X' q => by
  obtain ⟨rfl, N', e'⟩ := hq _ _ _ q
  exact h T' Lc X' (Fr.app N N') e'
end OwnY
theorem ow {Z : State} {a0 : Array Value} (hw : ∀ d ∈ tables_1, d.before a0 Z = true) (i : Nat) {d : Jvm.Cond} (h : tables_1[i]? = some d) : d.before a0 Z = true := hw _ (List.mem_of_getElem? h)
theorem own_narc {x : Int32} (h : ¬ x < 0 ∧ ¬ (255 : Int32) < x) : nar .char x = x := by
  have b := c_i2c x
  have z0 : (0 : Int32).toInt = 0 := by decide
  have z1 : (255 : Int32).toInt = 255 := by decide
  rw [Int32.lt_iff_toInt_lt, Int32.lt_iff_toInt_lt] at h
  rw [← Int32.toInt_inj]
  show x.toUInt32.toUInt16.toUInt32.toInt32.toInt = _
  omega
theorem own_c255 (x : Int32) : ¬ (x &&& (255 : Int32)).toUInt32.toUInt16.toUInt32.toInt32 < 0 ∧ ¬ (255 : Int32) < (x &&& (255 : Int32)).toUInt32.toUInt16.toUInt32.toInt32 := by
  have a := c_i2c (x &&& (255 : Int32))
  have m := c_mask x 255 8 (by decide) (by decide)
  have z0 : (0 : Int32).toInt = 0 := by decide
  have z1 : (255 : Int32).toInt = 255 := by decide
  rw [Int32.lt_iff_toInt_lt, Int32.lt_iff_toInt_lt]
  omega
theorem own_r16 {cs : List Int32} (h : ∀ c ∈ cs, ¬ c < 0 ∧ ¬ (255 : Int32) < c) : ∀ c ∈ cs, ¬ c < 0 ∧ ¬ (65535 : Int32) < c := fun c q => ⟨(h c q).1, fun z => (h c q).2 (by
  have z1 : (255 : Int32).toInt = 255 := by decide
  have z2 : (65535 : Int32).toInt = 65535 := by decide
  rw [Int32.lt_iff_toInt_lt] at z ⊢
  omega)⟩
theorem own_and3 (x : Int32) : x &&& 3 = 0 ∨ x &&& 3 = 1 ∨ x &&& 3 = 2 ∨ x &&& 3 = 3 := by
  have m := c_mask x 3 2 (by decide) (by decide)
  have z0 : (0 : Int32).toInt = 0 := by decide
  have z1 : (1 : Int32).toInt = 1 := by decide
  have z2 : (2 : Int32).toInt = 2 := by decide
  have z3 : (3 : Int32).toInt = 3 := by decide
  rw [← Int32.toInt_inj, ← Int32.toInt_inj, ← Int32.toInt_inj, ← Int32.toInt_inj]
  omega
theorem own_cod {cs : List Int32} {n : Nat} (hn : cs.length = n) (hb : ∀ c ∈ cs, ¬ (255 : Int32) < c) : StrChars.Road.CodA cs 0 (Int32.ofNat n) ((cs.map StrChars.lo8).map Value.int) := by
  subst hn
  exact Or.inl ⟨rfl, rfl, by rw [List.map_map]; rfl, hb⟩
theorem own_selfsel {s : State} {args : Array Value} {K : String} {y : MethodName} (hs : (Cond.selects K y y).before args s = true) (hp : s.PrivateAt y) (hi : (Cond.instanceMethod y).before args s = true) (hy : y.cls ≠ "java/lang/invoke/MethodHandle" ∧ y.cls ≠ "java/lang/invoke/VarHandle") : (Cond.selects y.cls y y).before args s = true := by
  obtain ⟨c, r, m, h1, h2, h3, h4, k, hk, hni⟩ := Cond.selects_spec hs
  exact Jvm.Stand.selects_self_of_private (findClass_of_methodNamed h3) hk hni hp hi hy
theorem own_same {a0 : Array Value} {Z : State} {y x z : MethodName} {K : String} (hd : (Cond.declares y).before a0 Z = true) (hs : (Cond.selects K x z).before a0 Z = true) (hz : z.cls = y.cls) (hy : y.cls ≠ "java/lang/invoke/MethodHandle" ∧ y.cls ≠ "java/lang/invoke/VarHandle") : (Cond.sameMethod y.cls y.cls y.name y.desc).before a0 Z = true := by
  obtain ⟨m, meth, h1, h2, h3, h4⟩ := Cond.declares_spec hd
  obtain ⟨c, r, m', g1, g2, g3, g4, k, hk, hni⟩ := Cond.selects_spec hs
  have h5 : Z.methodFound? y.cls y.name y.desc = some m := State.methodFound?_of_named h1 hy
  have h6 : Z.methodNamed? ⟨y.cls, y.name, y.desc⟩ = some m := h1
  have h7 : Z.vm.findClass y.cls = some m'.cls := by rw [← hz]; exact findClass_of_methodNamed g3
  simp only [Cond.before, Cond.holds, Cond.value, h5, h6, h7, hk]
  simp [hni]
theorem own_narb (x : Int32) : nar .byte x.toInt8.toInt32 = StrChars.lo8 x := by
  show x.toInt8.toInt32.toInt8.toInt32 = x.toInt8.toInt32
  simp
def own_enc : List (Bool × Int32) → List Int32
  | [] => []
  | (true, c) :: r => 92 :: c :: own_enc r
  | (false, c) :: r => c :: own_enc r
def own_cs (ld : Nat) (es : List (Bool × Int32)) (tl : Nat) : List Int32 := List.replicate ld 32 ++ 34 :: (own_enc es ++ 34 :: List.replicate tl 32)
def own_unit (u : Bool × Int32) : Prop := (u.1 = true ∧ (u.2 = (34 : Int32) ∨ u.2 = (92 : Int32))) ∨ (u.1 = false ∧ ¬ u.2 = (34 : Int32) ∧ ¬ u.2 = (92 : Int32) ∧ ¬ u.2 < (32 : Int32) ∧ ¬ (126 : Int32) < u.2)
theorem own_lenC (ld : Nat) (es : List (Bool × Int32)) (tl : Nat) : (own_cs ld es tl).length = ld + (own_enc es).length + 2 + tl := by
  simp [own_cs]; omega
theorem own_lead {ld j tl : Nat} {es : List (Bool × Int32)} (h : j < ld) : (own_cs ld es tl).getD j 0 = (32 : Int32) := by
  simp only [own_cs, List.getD_eq_getElem?_getD]
  rw [List.getElem?_append_left (by simpa using h), List.getElem?_replicate, if_pos h]
  rfl
theorem own_q1 (ld : Nat) (es : List (Bool × Int32)) (tl : Nat) : (own_cs ld es tl).getD ld 0 = (34 : Int32) := by
  simp [own_cs, List.getD_eq_getElem?_getD]
theorem own_mid (ld : Nat) (es : List (Bool × Int32)) (tl off : Nat) : (own_cs ld es tl).getD (ld + 1 + off) 0 = (own_enc es ++ 34 :: List.replicate tl 32).getD off 0 := by
  simp only [own_cs, List.getD_eq_getElem?_getD]
  rw [List.getElem?_append_right (by simp; omega), List.length_replicate, show ld + 1 + off - ld = off + 1 by omega, List.getElem?_cons_succ]
theorem own_q2 {ld Q tl : Nat} {es : List (Bool × Int32)} (h : Q = ld + 1 + (own_enc es).length) : (own_cs ld es tl).getD Q 0 = (34 : Int32) := by
  rw [h, own_mid]
  simp [List.getD_eq_getElem?_getD]
theorem own_tailc {ld Q tl k : Nat} {es : List (Bool × Int32)} (h : Q = ld + 1 + (own_enc es).length) (hk : k < tl) : (own_cs ld es tl).getD (Q + 1 + k) 0 = (32 : Int32) := by
  rw [h, show ld + 1 + (own_enc es).length + 1 + k = ld + 1 + ((own_enc es).length + (k + 1)) by omega, own_mid]
  simp only [List.getD_eq_getElem?_getD]
  rw [List.getElem?_append_right (by omega), Nat.add_sub_cancel_left, List.getElem?_cons_succ, List.getElem?_replicate, if_pos hk]
  rfl
theorem own_toN {n : Nat} (h : n < 2147483648) : (Int32.ofNat n).toInt = n := by
  rw [Int32.toInt_ofNat_of_lt (by simpa using h)]
theorem own_sub1 (n : Nat) : Int32.ofNat (n + 1) - (1 : Int32) = Int32.ofNat n := by
  rw [Int32.ofNat_add]
  show Int32.ofNat n + 1 - 1 = _
  simp
theorem own_dec (n : Nat) : Int32.ofNat (n + 1) + (-1 : Int32) = Int32.ofNat n := by
  rw [Int32.ofNat_add, Int32.add_assoc]
  show Int32.ofNat n + (1 + -1) = _
  rw [show (1 : Int32) + -1 = 0 by decide, Int32.add_zero]
theorem own_inc (n : Nat) : Int32.ofNat n + (1 : Int32) = Int32.ofNat (n + 1) := by
  rw [Int32.ofNat_add]; rfl
theorem own_olt {a b : Nat} (h : a < b) (hb : b < 100) : Int32.ofNat a < Int32.ofNat b := by
  rw [Int32.lt_iff_toInt_lt, own_toN (by omega), own_toN (by omega)]; omega
theorem own_one {a b : Nat} (h : a ≠ b) (ha : a < 100) (hb : b < 100) : ¬ Int32.ofNat a = Int32.ofNat b := fun e => by
  have := congrArg Int32.toInt e
  rw [own_toN (by omega), own_toN (by omega)] at this; omega
theorem own_opos {b : Nat} (h : 0 < b) (hb : b < 100) : (0 : Int32) < Int32.ofNat b := own_olt (a := 0) h hb
def own_b (c : Int32) : Bool := decide (c = 34 ∨ c = 92)
def own_w (c : Int32) : Nat := if c = 34 ∨ c = 92 then 2 else 1
def own_put (cs : List Int32) (j : Nat) (c : Int32) : List Int32 := if c = 34 ∨ c = 92 then (cs.set j 92).set (j + 1) c else cs.set j c
def own_buf : List Int32 := List.replicate 11 32
theorem own_f0 {ld : Nat} (h : ld ≤ 3) : ((own_buf.set ld 34).set (ld + 1) 34) = own_cs ld [] (9 - ld) := by
  rcases (by omega : ld = 0 ∨ ld = 1 ∨ ld = 2 ∨ ld = 3) with rfl | rfl | rfl | rfl <;> rfl
theorem own_f1 {ld : Nat} {c0 : Int32} (h : ld ≤ 3) : ((own_put (own_buf.set ld 34) (ld + 1) c0).set (ld + 1 + own_w c0) 34) = own_cs ld [(own_b c0, c0)] (9 - ld - own_w c0) := by
  by_cases q0 : c0 = 34 ∨ c0 = 92 <;> simp only [own_put, own_w, own_b, q0, if_true, if_false, decide_true, decide_false] <;>
  rcases (by omega : ld = 0 ∨ ld = 1 ∨ ld = 2 ∨ ld = 3) with rfl | rfl | rfl | rfl <;> rfl
theorem own_f2 {ld : Nat} {c0 c1 : Int32} (h : ld ≤ 3) : ((own_put (own_put (own_buf.set ld 34) (ld + 1) c0) (ld + 1 + own_w c0) c1).set (ld + 1 + own_w c0 + own_w c1) 34) = own_cs ld [(own_b c0, c0), (own_b c1, c1)] (9 - ld - own_w c0 - own_w c1) := by
  by_cases q0 : c0 = 34 ∨ c0 = 92 <;> by_cases q1 : c1 = 34 ∨ c1 = 92 <;> simp only [own_put, own_w, own_b, q0, q1, if_true, if_false, decide_true, decide_false] <;>
  rcases (by omega : ld = 0 ∨ ld = 1 ∨ ld = 2 ∨ ld = 3) with rfl | rfl | rfl | rfl <;> rfl
theorem own_f3 {ld : Nat} {c0 c1 c2 : Int32} (h : ld ≤ 3) : ((own_put (own_put (own_put (own_buf.set ld 34) (ld + 1) c0) (ld + 1 + own_w c0) c1) (ld + 1 + own_w c0 + own_w c1) c2).set (ld + 1 + own_w c0 + own_w c1 + own_w c2) 34) = own_cs ld [(own_b c0, c0), (own_b c1, c1), (own_b c2, c2)] (9 - ld - own_w c0 - own_w c1 - own_w c2) := by
  by_cases q0 : c0 = 34 ∨ c0 = 92 <;> by_cases q1 : c1 = 34 ∨ c1 = 92 <;> by_cases q2 : c2 = 34 ∨ c2 = 92 <;> simp only [own_put, own_w, own_b, q0, q1, q2, if_true, if_false, decide_true, decide_false] <;>
  rcases (by omega : ld = 0 ∨ ld = 1 ∨ ld = 2 ∨ ld = 3) with rfl | rfl | rfl | rfl <;> rfl
theorem own_w12 (c : Int32) : 1 ≤ own_w c ∧ own_w c ≤ 2 := by unfold own_w; split <;> omega
theorem own_putl (cs : List Int32) (j : Nat) (c : Int32) : (own_put cs j c).length = cs.length := by unfold own_put; split <;> simp
theorem own_encl : ∀ es : List (Bool × Int32), (own_enc es).length ≤ 2 * es.length
  | [] => Nat.le_refl _
  | (true, c) :: r => by have := own_encl r; simp only [own_enc, List.length_cons]; omega
  | (false, c) :: r => by have := own_encl r; simp only [own_enc, List.length_cons]; omega
theorem own_uf {c : Int32} (h : own_unit (false, c)) : ¬ c = (34 : Int32) ∧ ¬ c = (92 : Int32) ∧ ¬ c < (32 : Int32) ∧ ¬ (126 : Int32) < c := by
  rcases h with h | h
  · exact Bool.noConfusion (show false = true from h.1)
  · exact h.2
theorem own_ut {c : Int32} (h : own_unit (true, c)) : c = (34 : Int32) ∨ c = (92 : Int32) := by
  rcases h with h | h
  · exact h.2
  · exact Bool.noConfusion (show true = false from h.1)
theorem own_or2 {c : Int32} (h : own_unit (true, c)) (n : ¬ c = (34 : Int32)) : c = (92 : Int32) := (own_ut h).resolve_left n
theorem own_u255 {b : Bool} {c : Int32} (h : own_unit (b, c)) : ¬ c < 0 ∧ ¬ (255 : Int32) < c := by
  rcases h with ⟨-, h | h⟩ | ⟨-, -, -, h1, h2⟩
  · rw [show c = 34 from h]; decide
  · rw [show c = 92 from h]; decide
  · have z0 : (0 : Int32).toInt = 0 := by decide
    have z1 : (255 : Int32).toInt = 255 := by decide
    have z2 : (32 : Int32).toInt = 32 := by decide
    have z3 : (126 : Int32).toInt = 126 := by decide
    rw [Int32.lt_iff_toInt_lt] at h1 h2
    rw [Int32.lt_iff_toInt_lt, Int32.lt_iff_toInt_lt]
    simp only at h1 h2
    omega
theorem own_encr {es : List (Bool × Int32)} (h : ∀ u ∈ es, own_unit u) : ∀ c ∈ own_enc es, ¬ c < 0 ∧ ¬ (255 : Int32) < c := by
  induction es with
  | nil => intro c hc; cases hc
  | cons u r ih =>
    obtain ⟨b, d⟩ := u
    have h1 := own_u255 (h _ (List.mem_cons_self ..))
    have h2 := ih (fun u hu => h u (List.mem_cons_of_mem _ hu))
    cases b
    · intro c hc
      rcases List.mem_cons.mp hc with rfl | hc
      · exact h1
      · exact h2 c hc
    · intro c hc
      rcases List.mem_cons.mp hc with rfl | hc
      · decide
      · rcases List.mem_cons.mp hc with rfl | hc
        · exact h1
        · exact h2 c hc
theorem own_rng {ld tl : Nat} {es : List (Bool × Int32)} (h : ∀ u ∈ es, own_unit u) : ∀ c ∈ own_cs ld es tl, ¬ c < 0 ∧ ¬ (255 : Int32) < c := by
  intro c hc
  rcases List.mem_append.mp hc with hc | hc
  · rw [List.eq_of_mem_replicate hc]; decide
  · rcases List.mem_cons.mp hc with rfl | hc
    · decide
    · rcases List.mem_append.mp hc with hc | hc
      · exact own_encr h c hc
      · rcases List.mem_cons.mp hc with rfl | hc
        · decide
        · rw [List.eq_of_mem_replicate hc]; decide
def own_ch (c : Int32) : Prop := own_unit (own_b c, c)
theorem own_chl {c : Int32} (h : c = (34 : Int32) ∨ c = (92 : Int32)) : own_ch c := Or.inl ⟨by simpa [own_b] using h, h⟩
theorem own_chp {c : Int32} (h1 : ¬ c < (32 : Int32)) (h2 : ¬ (126 : Int32) < c) : own_ch c := by
  by_cases h : c = 34 ∨ c = 92
  · exact own_chl h
  · exact Or.inr ⟨by simp [own_b, h], fun q => h (Or.inl q), fun q => h (Or.inr q), h1, h2⟩
theorem own_inc2 (n : Nat) : Int32.ofNat n + (2 : Int32) = Int32.ofNat (n + 2) := by
  rw [Int32.ofNat_add]; rfl
theorem own_wt {c : Int32} (h : c = 34 ∨ c = 92) : own_w c = 2 := if_pos h
theorem own_wf {c : Int32} (h1 : ¬ c = (34 : Int32)) (h2 : ¬ c = (92 : Int32)) : own_w c = 1 := if_neg (fun h => h.elim h1 h2)
theorem own_pt {cs : List Int32} {j : Nat} {c : Int32} (h : c = 34 ∨ c = 92) : own_put cs j c = (cs.set j 92).set (j + 1) c := if_pos h
theorem own_pf {cs : List Int32} {j : Nat} {c : Int32} (h1 : ¬ c = (34 : Int32)) (h2 : ¬ c = (92 : Int32)) : own_put cs j c = cs.set j c := if_neg (fun h => h.elim h1 h2)
theorem own_clamp {n : Nat} (h : n < 100) : (Int32.ofNat n).toNatClampNeg = n := by
  rw [Int32.toNatClampNeg, own_toN (by omega)]; rfl
theorem own_inr {n : Nat} (h : n < 11) : ¬ Int32.ofNat n < 0 ∧ Int32.ofNat n < (11 : Int32) :=
  ⟨fun q => by
    rw [Int32.lt_iff_toInt_lt, own_toN (by omega)] at q
    have z0 : (0 : Int32).toInt = 0 := by decide
    omega, own_olt (b := 11) h (by decide)⟩
theorem own_merge {p : Program} {e : Env} {below : List Frame} {P : Outcome → State → Prop} {A B : State} (h : own_Fin p e below P B) (k : own_Fin p e below P B → own_Fin p e below P A) : own_Fin p e below P A := k h
theorem own_and3n (x : Int32) : ∃ n : Nat, x &&& (3 : Int32) = Int32.ofNat n ∧ n ≤ 3 := by
  rcases own_and3 x with h | h | h | h <;> rw [h]
  · exact ⟨0, rfl, by decide⟩
  · exact ⟨1, rfl, by decide⟩
  · exact ⟨2, rfl, by decide⟩
  · exact ⟨3, rfl, by decide⟩
theorem own_uc (x : Int32) : own_ch (((32 : Int32) + (((x.toUInt32 >>> ((2 : Int32) &&& 31).toUInt32).toInt32) % (95 : Int32))).toUInt32.toUInt16.toUInt32.toInt32) := by
  have a := c_iushr x 2 2 (by decide) (by decide)
  have r := rng32 x
  have b := (c_irem ((x.toUInt32 >>> ((2 : Int32) &&& 31).toUInt32).toInt32) 95 95 (by decide)).1 (by omega)
  generalize (x.toUInt32 >>> ((2 : Int32) &&& 31).toUInt32).toInt32 = y at *
  have d := c_iadd 32 (y % 95)
  have d2 := rng32 (32 + y % 95)
  have z2 : (32 : Int32).toInt = 32 := by decide
  have z3 : (126 : Int32).toInt = 126 := by decide
  have e := c_i2c (32 + y % 95)
  generalize (32 + y % 95).toUInt32.toUInt16.toUInt32.toInt32 = q at *
  refine own_chp ?_ ?_
  · rw [Int32.lt_iff_toInt_lt]; omega
  · rw [Int32.lt_iff_toInt_lt]; omega
theorem own_wV {Z : State} {a0 : Array Value} (hw : ∀ d ∈ tables_1, d.before a0 Z = true) : ∀ d ∈ StrChars.Road.words, d.before a0 Z = true := by
  intro d hd
  simp only [StrChars.Road.words, List.mem_cons, List.not_mem_nil, or_false] at hd
  rcases hd with rfl | rfl | rfl | rfl | rfl | rfl | rfl | rfl | rfl | rfl | rfl | rfl | rfl | rfl | rfl | rfl | rfl | rfl | rfl | rfl | rfl | rfl | rfl | rfl
  · exact (ow hw 10 rfl)
  · exact (ow hw 7 rfl)
  · exact (ow hw 11 rfl)
  · exact (ow hw 12 rfl)
  · exact (ow hw 14 rfl)
  · exact (ow hw 18 rfl)
  · exact (ow hw 33 rfl)
  · exact (ow hw 32 rfl)
  · exact (ow hw 31 rfl)
  · exact (ow hw 30 rfl)
  · exact (ow hw 15 rfl)
  · exact (ow hw 16 rfl)
  · exact (ow hw 17 rfl)
  · exact (ow hw 19 rfl)
  · exact (ow hw 20 rfl)
  · exact (ow hw 27 rfl)
  · exact (ow hw 28 rfl)
  · exact (ow hw 22 rfl)
  · exact (ow hw 21 rfl)
  · exact (ow hw 23 rfl)
  · exact (ow hw 24 rfl)
  · exact (ow hw 25 rfl)
  · exact (ow hw 26 rfl)
  · exact (ow hw 29 rfl)
theorem own_wL {Z : State} {a0 : Array Value} (hw : ∀ d ∈ tables_1, d.before a0 Z = true) : ∀ d ∈ StrChars.Road.wordsLen, d.before a0 Z = true := by
  intro d hd
  simp only [StrChars.Road.wordsLen, List.mem_cons, List.not_mem_nil, or_false] at hd
  rcases hd with rfl | rfl | rfl | rfl | rfl | rfl | rfl | rfl | rfl | rfl
  · exact (ow hw 42 rfl)
  · exact (ow hw 7 rfl)
  · exact (ow hw 32 rfl)
  · exact (ow hw 18 rfl)
  · exact (ow hw 30 rfl)
  · exact (ow hw 47 rfl)
  · exact (ow hw 43 rfl)
  · exact (ow hw 44 rfl)
  · exact (ow hw 46 rfl)
  · exact (ow hw 45 rfl)
theorem own_wC {Z : State} {a0 : Array Value} (hw : ∀ d ∈ tables_1, d.before a0 Z = true) : ∀ d ∈ StrChars.Road.wordsChN, d.before a0 Z = true := by
  intro d hd
  simp only [StrChars.Road.wordsChN, List.mem_cons, List.not_mem_nil, or_false] at hd
  rcases hd with rfl | rfl | rfl | rfl | rfl | rfl | rfl | rfl | rfl | rfl | rfl | rfl | rfl | rfl | rfl | rfl | rfl | rfl | rfl | rfl | rfl | rfl
  · exact (ow hw 52 rfl)
  · exact (ow hw 7 rfl)
  · exact (ow hw 32 rfl)
  · exact (ow hw 18 rfl)
  · exact (ow hw 30 rfl)
  · exact (ow hw 57 rfl)
  · exact (ow hw 53 rfl)
  · exact (ow hw 54 rfl)
  · exact (ow hw 56 rfl)
  · exact (ow hw 55 rfl)
  · exact (ow hw 58 rfl)
  · exact (ow hw 59 rfl)
  · exact (ow hw 61 rfl)
  · exact (ow hw 60 rfl)
  · exact (ow hw 62 rfl)
  · exact (ow hw 63 rfl)
  · exact (ow hw 64 rfl)
  · exact (ow hw 65 rfl)
  · exact (ow hw 67 rfl)
  · exact (ow hw 68 rfl)
  · exact (ow hw 69 rfl)
  · exact (ow hw 66 rfl)
theorem pn_0 : plainName "java/lang/AbstractStringBuilder" = true := by first | (simp [plainName, overriddenIn]; done) | decide +kernel
theorem dB17 : oL jdk_68_method_2_code [(0, .aload_n 0, 1), (1, .invokespecial 3, 3), (4, .getstatic 18, 3), (7, .ifCond .eq 18, 3), (10, .aload_n 0, 1), (11, .iload_n 1, 1), (12, .newarray .byte, 2), (14, .putfield 15, 3), (17, .aload_n 0, 1), (18, .iconst 0, 1), (19, .putfield 22, 3), (22, .goto 16, 3), (25, .aload_n 0, 1), (26, .iload_n 1, 1), (27, .invokestatic 26, 3), (30, .putfield 15, 3), (33, .aload_n 0, 1), (34, .iconst 1, 1), (35, .putfield 22, 3), (38, .return_, 1)] := by unfold oL; decide +kernel
theorem ef_rm17 (m : MethodId) (x0 : Addr) (x1 : Int32) : entryFrame m #[(.ref x0), (.int x1)] 2 = mkF m 0 #[.val (.ref x0), .val (.int x1)] [] := by first | (simp [entryFrame, mkF, argsToLocals, Value.category]; done) | rfl
def Q17 (Z : State) (b : Addr) (z : Int32) (h0 : Heap) (n0 : Nat) (v : Option Value) (h : Heap) (L : List Loc) : Prop := ∃ (tb : Addr) (kt : ClassId), v = none ∧ Fr n0 L ∧ Keep h0 h [b] ∧ n0 ≤ tb ∧ h0.size ≤ tb ∧ Exa Z h b "java/lang/StringBuilder" ∧ Fld Z h b "java/lang/AbstractStringBuilder" "value" "[B" (.ref tb) ∧ Fld Z h b "java/lang/AbstractStringBuilder" "count" "I" (.int (0 : Int32)) ∧ Fld Z h b "java/lang/AbstractStringBuilder" "coder" "B" (.int (0 : Int32)) ∧ Arv Z h tb kt .byte (16 : Int32) [(.int (0 : Int32)), (.int (0 : Int32)), (.int (0 : Int32)), (.int (0 : Int32)), (.int (0 : Int32)), (.int (0 : Int32)), (.int (0 : Int32)), (.int (0 : Int32)), (.int (0 : Int32)), (.int (0 : Int32)), (.int (0 : Int32)), (.int (0 : Int32)), (.int (0 : Int32)), (.int (0 : Int32)), (.int (0 : Int32)), (.int (0 : Int32))] (.int 0)
set_option maxRecDepth 65536 in
set_option maxHeartbeats 40000000 in
theorem rm17 (l : Launch) (Z : State) (a0 : Array Value) (hw : ∀ d ∈ tables_1, d.before a0 Z = true) (ws : List Jvm.Cond) (b : Addr) (z : Int32) (h0 : Heap) (n0 : Nat) (Z0 : n0 ≤ h0.size) (hz : ¬ z = (0 : Int32)) (O : Old Z n0 h0) (SC : Sta Z Z.heap "java/lang/String" "COMPACT_STRINGS" "Z" (.int z)) (E : Exa Z h0 b "java/lang/StringBuilder") (F0 : Fld Z h0 b "java/lang/AbstractStringBuilder" "value" "[B" .null) (F1 : Fld Z h0 b "java/lang/AbstractStringBuilder" "count" "I" (.int (0 : Int32))) (F2 : Fld Z h0 b "java/lang/AbstractStringBuilder" "coder" "B" (.int (0 : Int32))) (gb : n0 ≤ b) :
    own_M l (⟨"java/lang/AbstractStringBuilder", "<init>", "(I)V"⟩ : MethodName) jdk_68_method_2_code 2 none ws ({ frames := 1, cells := 1, slots := 16, locals := 12 } : Room) #[(.ref b), (.int (16 : Int32))] Z h0 (Q17 Z b z h0 n0) := by
  refine MetFree.of_bodySF (plainFor_of_name pn_0) hisR ?_
  intro p e s m args below meth cd s₁ Bd hml hP hK
  obtain ⟨rfl, hZ, hh⟩ := hP
  obtain ⟨X0, e0, H, hlk, hown, hret⟩ := own_start (R := ({ frames := 1, cells := 1, slots := 16, locals := 12 } : Room)) Bd hh rfl
  have hx := H.1; have hby := H.2; have N0 := Fr.nil n0
  show own_Fin p e below (own_Ans s (Q17 Z b z h0 n0) ({ frames := 1, cells := 1, slots := 16, locals := 12 } : Room).cells ({ frames := 1, cells := 1, slots := 16, locals := 12 } : Room).slots) (s₁.setTop (entryFrame m #[(.ref b), (.int (16 : Int32))] 2))
  refine own_cast (ef_rm17 m b (16 : Int32)) ?_
  show own_Fin p e below _ (s₁.setTop (mkF m 0 #[.val (.ref b), .val (.int (16 : Int32))] []))
  refine o_aldN X0 H (od dB17 0 rfl) rfl rfl ?_
  obtain ⟨T1, X1, e1, st1⟩ := initO X0 hx hZ hown (ow hw 82 rfl) (ow hw 16 rfl) (ow hw 17 rfl) e0 (g := (mkF m 1 #[.val (.ref b), .val (.int (16 : Int32))] [(.ref b)])) rfl (by rw [hml]; rfl) rfl (hb hby (od dB17 1 rfl)) (by decide) (W := 0) (by show 2 * 0 + _ ≤ _; exact Nat.le_of_eq rfl) (by decide)
  refine own_on st1 ?_
  show own_Fin p e below _ (T1.setTop (mkF m 4 #[.val (.ref b), .val (.int (16 : Int32))] []))
  refine o_gs X1 H hZ hown (ow hw 83 rfl) Via.refl e1 (SC.ext O.2) (od dB17 2 rfl) fun T2 X2 e2 => ?_
  refine o_ifN X2 H (od dB17 3 rfl) ((if0 _ _).trans (feq hz).1) ?_
  refine o_aldN X2 H (od dB17 4 rfl) rfl rfl ?_
  refine o_ildN X2 H (od dB17 5 rfl) rfl ?_
  obtain ⟨T3, h3, k3, X3, e3, E3, A3, st3⟩ := newP X2 hx hZ (ow hw 23 rfl) e2 (g := (mkF m 12 #[.val (.ref b), .val (.int (16 : Int32))] [(.int (16 : Int32)), (.ref b)])) rfl (hb hby (od dB17 6 rfl)) rfl (by decide) (cap := 16) (by decide) (by decide) (by decide) (by decide)
  obtain ⟨b3, g3⟩ : ∃ z, z = h0.size := ⟨_, rfl⟩
  rw [← g3] at A3 st3
  have ne3_b : b ≠ b3 := own_ne_of (Z := Z) E.lt g3
  have gn3 : n0 ≤ b3 := Nat.le_trans Z0 (Nat.le_of_eq g3.symm)
  have gk3 : h0.size ≤ b3 := Nat.le_trans (Keep.refl h0 [b]).1 (Nat.le_of_eq g3.symm)
  have V3 : Arv Z h3 b3 k3 .byte (16 : Int32) [(.int (0 : Int32)), (.int (0 : Int32)), (.int (0 : Int32)), (.int (0 : Int32)), (.int (0 : Int32)), (.int (0 : Int32)), (.int (0 : Int32)), (.int (0 : Int32)), (.int (0 : Int32)), (.int (0 : Int32)), (.int (0 : Int32)), (.int (0 : Int32)), (.int (0 : Int32)), (.int (0 : Int32)), (.int (0 : Int32)), (.int (0 : Int32))] (.int (0 : Int32)) := (Arv.new A3 (by decide)).pad (pad_rep [] (.int (0 : Int32)) 16)
  refine own_on st3 ?_
  show own_Fin p e below _ (T3.setTop (mkF m 14 #[.val (.ref b), .val (.int (16 : Int32))] [(.ref b3), (.ref b)]))
  obtain ⟨T4, h4, X4, e4, W4, st4⟩ := putF X3 hx hZ hown (host := "") (Or.inl (ow hw 84 rfl)) Via.refl e3 (F0.ext E3) (E.ext E3) (Or.inl (ow hw 85 rfl)) (ow hw 71 rfl) (ty := (.array .byte)) (by decide) rfl rfl (g := (mkF m 14 #[.val (.ref b), .val (.int (16 : Int32))] [(.ref b3), (.ref b)])) rfl rfl (hb hby (od dB17 7 rfl))
  have N4 := Fr.snoc X4 N0 gb
  have y5 := ((F1.ext E3).other W4 (Or.inr (slot_ne (Or.inl (ow hw 115 rfl)) (Or.inl (ow hw 85 rfl)) (by decide) (t := .int) (t' := (.array .byte)) (by decide) (by decide))))
  have y6 := ((F2.ext E3).other W4 (Or.inr (slot_ne (Or.inl (ow hw 87 rfl)) (Or.inl (ow hw 85 rfl)) (by decide) (t := .byte) (t' := (.array .byte)) (by decide) (by decide))))
  refine own_on st4 ?_
  show own_Fin p e below _ (T4.setTop (mkF m 17 #[.val (.ref b), .val (.int (16 : Int32))] []))
  refine o_aldN X4 H (od dB17 8 rfl) rfl rfl ?_
  refine o_ic X4 H (od dB17 9 rfl) (v := 0) rfl ?_
  obtain ⟨T7, h7, X7, e7, W7, st7⟩ := putFN X4 hx hZ hown (ow hw 86 rfl) Via.refl e4 y6 ((E.ext E3).wr W4) (Or.inl (ow hw 87 rfl)) (ow hw 71 rfl) (ty := .byte) (v' := (.int (0 : Int32))) (by decide) rfl (by decide) (g := (mkF m 19 #[.val (.ref b), .val (.int (16 : Int32))] [(.int (0 : Int32)), (.ref b)])) rfl rfl (hb hby (od dB17 10 rfl))
  have N7 := Fr.snoc X7 N4 gb
  have y8 := ((((Keep.refl h0 [b]).ext E3).wr W4 (Or.inl (List.mem_of_getElem? (i := 0) rfl))).wr W7 (Or.inl (List.mem_of_getElem? (i := 0) rfl)))
  have y9 := (((F0.ext E3).same W4).other W7 (Or.inr (slot_ne (Or.inl (ow hw 85 rfl)) (Or.inl (ow hw 87 rfl)) (by decide) (t := (.array .byte)) (t' := .byte) (by decide) (by decide))))
  have y10 := (y5.other W7 (Or.inr (slot_ne (Or.inl (ow hw 115 rfl)) (Or.inl (ow hw 87 rfl)) (by decide) (t := .int) (t' := .byte) (by decide) (by decide))))
  refine own_on st7 ?_
  show own_Fin p e below _ (T7.setTop (mkF m 22 #[.val (.ref b), .val (.int (16 : Int32))] []))
  refine o_go X7 H (od dB17 11 rfl) (pc' := 38) (by decide) (by decide) ?_
  exact own_retV X7 hx hlk hret (hb hby (od dB17 19 rfl)) (by show Q17 Z b z h0 n0 _ T7.heap _; rw [e7]; exact ⟨b3, k3, rfl, N7, y8, gn3, gk3, (((E.ext E3).wr W4).wr W7), y9, y10, (y6.same W7), ((V3.other W4 (Ne.symm ne3_b)).other W7 (Ne.symm ne3_b))⟩) (by decide) (by decide)
theorem pn_1 : plainName "java/lang/StringBuilder" = true := by first | (simp [plainName, overriddenIn]; done) | decide +kernel
theorem dB16 : oL jdk_67_method_1_code [(0, .aload_n 0, 1), (1, .bipush 16, 2), (3, .invokespecial 1, 3), (6, .return_, 1)] := by unfold oL; decide +kernel
theorem pd_0 : parseMethodDescriptor "(I)V" = some ⟨[.int], none⟩ := by decide +kernel
theorem ef_rm16 (m : MethodId) (x0 : Addr) : entryFrame m #[(.ref x0)] 1 = mkF m 0 #[.val (.ref x0)] [] := by first | (simp [entryFrame, mkF, argsToLocals, Value.category]; done) | rfl
def Q16 (Z : State) (b : Addr) (z : Int32) (h0 : Heap) (n0 : Nat) (v : Option Value) (h : Heap) (L : List Loc) : Prop := ∃ (tb : Addr) (kt : ClassId), v = none ∧ Fr n0 L ∧ Keep h0 h [b] ∧ n0 ≤ tb ∧ h0.size ≤ tb ∧ Exa Z h b "java/lang/StringBuilder" ∧ Fld Z h b "java/lang/AbstractStringBuilder" "value" "[B" (.ref tb) ∧ Fld Z h b "java/lang/AbstractStringBuilder" "count" "I" (.int (0 : Int32)) ∧ Fld Z h b "java/lang/AbstractStringBuilder" "coder" "B" (.int (0 : Int32)) ∧ Arv Z h tb kt .byte (16 : Int32) [(.int (0 : Int32)), (.int (0 : Int32)), (.int (0 : Int32)), (.int (0 : Int32)), (.int (0 : Int32)), (.int (0 : Int32)), (.int (0 : Int32)), (.int (0 : Int32)), (.int (0 : Int32)), (.int (0 : Int32)), (.int (0 : Int32)), (.int (0 : Int32)), (.int (0 : Int32)), (.int (0 : Int32)), (.int (0 : Int32)), (.int (0 : Int32))] (.int 0)
set_option maxRecDepth 65536 in
set_option maxHeartbeats 40000000 in
theorem rm16 (l : Launch) (Z : State) (a0 : Array Value) (hw : ∀ d ∈ tables_1, d.before a0 Z = true) (ws : List Jvm.Cond) (b : Addr) (z : Int32) (h0 : Heap) (n0 : Nat) (Z0 : n0 ≤ h0.size) (hz : ¬ z = (0 : Int32)) (O : Old Z n0 h0) (SC : Sta Z Z.heap "java/lang/String" "COMPACT_STRINGS" "Z" (.int z)) (E : Exa Z h0 b "java/lang/StringBuilder") (F0 : Fld Z h0 b "java/lang/AbstractStringBuilder" "value" "[B" .null) (F1 : Fld Z h0 b "java/lang/AbstractStringBuilder" "count" "I" (.int (0 : Int32))) (F2 : Fld Z h0 b "java/lang/AbstractStringBuilder" "coder" "B" (.int (0 : Int32))) (gb : n0 ≤ b) :
    own_M l (⟨"java/lang/StringBuilder", "<init>", "()V"⟩ : MethodName) jdk_67_method_1_code 1 none ws ({ frames := 2, cells := 1, slots := 16, locals := 25 } : Room) #[(.ref b)] Z h0 (Q16 Z b z h0 n0) := by
  refine MetFree.of_bodySF (plainFor_of_name pn_1) hisR ?_
  intro p e s m args below meth cd s₁ Bd hml hP hK
  obtain ⟨rfl, hZ, hh⟩ := hP
  obtain ⟨X0, e0, H, hlk, hown, hret⟩ := own_start (R := ({ frames := 2, cells := 1, slots := 16, locals := 25 } : Room)) Bd hh rfl
  have hx := H.1; have hby := H.2; have N0 := Fr.nil n0
  show own_Fin p e below (own_Ans s (Q16 Z b z h0 n0) ({ frames := 2, cells := 1, slots := 16, locals := 25 } : Room).cells ({ frames := 2, cells := 1, slots := 16, locals := 25 } : Room).slots) (s₁.setTop (entryFrame m #[(.ref b)] 1))
  refine own_cast (ef_rm16 m b) ?_
  show own_Fin p e below _ (s₁.setTop (mkF m 0 #[.val (.ref b)] []))
  refine o_aldN X0 H (od dB16 0 rfl) rfl rfl ?_
  refine o_bi X0 H (od dB16 1 rfl) (v := 16) rfl ?_
  refine o_sc (b := b) (argsL := [(.int (16 : Int32))]) (rest := []) X0 H hml hZ hown (ow hw 76 rfl) (ow hw 77 rfl) (ow hw 81 rfl) (backOf (W := 0) (rm17 l Z a0 hw [] b z h0 n0 (by exact Z0) hz O SC E F0 F1 F2 gb) hZ (ow hw 81 rfl) (ow hw 80 rfl) (by decide) (by decide)) rfl (by decide) e0 pd_0 (od dB16 2 rfl) rfl rfl rfl rfl rfl (by decide) (by decide) fun _ T11 Lc11 X11 hQ11 => ?_
  obtain ⟨tb11, kt11, rfl, N11q, K11, gt11, gk11, Eq11, Vq11, Cq11, Dq11, Aq11⟩ := hQ11
  have ne11_b : b ≠ tb11 := Nat.ne_of_lt (Nat.lt_of_lt_of_le E.lt gk11)
  have N11 := Fr.app N0 N11q
  show own_Fin p e below _ (T11.setTop (mkF m 6 #[.val (.ref b)] []))
  exact own_retV X11 hx hlk hret (hb hby (od dB16 3 rfl)) (by show Q16 Z b z h0 n0 _ T11.heap _; exact ⟨tb11, kt11, rfl, N11, ((Keep.refl h0 [b]).trans K11 (allS (Or.inl (List.mem_of_getElem? (i := 0) rfl)) all0)), gt11, (Nat.le_trans (Keep.refl h0 [b]).1 gk11), Eq11, Vq11, Cq11, Dq11, Aq11⟩) (by decide) (by decide)
theorem dB24 : oL jdk_68_method_68_code [(0, .getstatic 18, 3), (3, .ifCond .eq 14, 3), (6, .aload_n 0, 1), (7, .getfield 22, 3), (10, .ifCond .ne 7, 3), (13, .iconst 1, 1), (14, .goto 4, 3), (17, .iconst 0, 1), (18, .ireturn, 1)] := by unfold oL; decide +kernel
theorem ef_rm24 (m : MethodId) (x0 : Addr) : entryFrame m #[(.ref x0)] 1 = mkF m 0 #[.val (.ref x0)] [] := by first | (simp [entryFrame, mkF, argsToLocals, Value.category]; done) | rfl
def Q24 (Z : State) (b : Addr) (z : Int32) (h0 : Heap) (n0 : Nat) (v : Option Value) (h : Heap) (L : List Loc) : Prop := v = some (.int (1 : Int32)) ∧ Fr n0 L ∧ h = h0
set_option maxRecDepth 65536 in
set_option maxHeartbeats 40000000 in
theorem rm24 (l : Launch) (Z : State) (a0 : Array Value) (hw : ∀ d ∈ tables_1, d.before a0 Z = true) (ws : List Jvm.Cond) (b : Addr) (z : Int32) (h0 : Heap) (n0 : Nat) (Z0 : n0 ≤ h0.size) (hz : ¬ z = (0 : Int32)) (O : Old Z n0 h0) (SC : Sta Z Z.heap "java/lang/String" "COMPACT_STRINGS" "Z" (.int z)) (F : Fld Z h0 b "java/lang/AbstractStringBuilder" "coder" "B" (.int (0 : Int32))) :
    own_M l (⟨"java/lang/AbstractStringBuilder", "isLatin1", "()Z"⟩ : MethodName) jdk_68_method_68_code 1 (some .boolean) ws ({ frames := 0, cells := 0, slots := 0, locals := 0 } : Room) #[(.ref b)] Z h0 (Q24 Z b z h0 n0) := by
  refine MetFree.of_bodySF (plainFor_of_name pn_0) hisR ?_
  intro p e s m args below meth cd s₁ Bd hml hP hK
  obtain ⟨rfl, hZ, hh⟩ := hP
  obtain ⟨X0, e0, H, hlk, hown, hret⟩ := own_start (R := ({ frames := 0, cells := 0, slots := 0, locals := 0 } : Room)) Bd hh rfl
  have hx := H.1; have hby := H.2; have N0 := Fr.nil n0
  show own_Fin p e below (own_Ans s (Q24 Z b z h0 n0) ({ frames := 0, cells := 0, slots := 0, locals := 0 } : Room).cells ({ frames := 0, cells := 0, slots := 0, locals := 0 } : Room).slots) (s₁.setTop (entryFrame m #[(.ref b)] 1))
  refine own_cast (ef_rm24 m b) ?_
  show own_Fin p e below _ (s₁.setTop (mkF m 0 #[.val (.ref b)] []))
  refine o_gs X0 H hZ hown (ow hw 83 rfl) Via.refl e0 (SC.ext O.2) (od dB24 0 rfl) fun T12 X12 e12 => ?_
  refine o_ifN X12 H (od dB24 1 rfl) ((if0 _ _).trans (feq hz).1) ?_
  refine o_aldN X12 H (od dB24 2 rfl) rfl rfl ?_
  refine o_gf X12 H hZ hown (ow hw 86 rfl) Via.refl e12 F (od dB24 3 rfl) fun T13 X13 e13 => ?_
  refine o_ifN X13 H (od dB24 4 rfl) ((if0 _ _).trans (teq (by decide : (0 : Int32) = (0 : Int32))).2) ?_
  refine o_ic X13 H (od dB24 5 rfl) (v := 1) rfl ?_
  refine o_go X13 H (od dB24 6 rfl) (pc' := 18) (by decide) (by decide) ?_
  exact own_ret (t := .boolean) X13 hx hlk hret rfl (Or.inl ⟨rfl, (by simp), _, rfl⟩) (hb hby (od dB24 8 rfl)) (⟨rfl, N0, e13⟩) (by decide) (by decide)
theorem dB21 : oL jdk_68_method_64_code [(0, .aload_n 0, 1), (1, .getfield 15, 3), (4, .areturn, 1)] := by unfold oL; decide +kernel
theorem ef_rm21 (m : MethodId) (x0 : Addr) : entryFrame m #[(.ref x0)] 1 = mkF m 0 #[.val (.ref x0)] [] := by first | (simp [entryFrame, mkF, argsToLocals, Value.category]; done) | rfl
def Q21 (Z : State) (b : Addr) (tb : Addr) (h0 : Heap) (n0 : Nat) (v : Option Value) (h : Heap) (L : List Loc) : Prop := v = some (.ref tb) ∧ Fr n0 L ∧ h = h0
set_option maxRecDepth 65536 in
set_option maxHeartbeats 40000000 in
theorem rm21 (l : Launch) (Z : State) (a0 : Array Value) (hw : ∀ d ∈ tables_1, d.before a0 Z = true) (ws : List Jvm.Cond) (b : Addr) (tb : Addr) (h0 : Heap) (n0 : Nat) (Z0 : n0 ≤ h0.size) (F : Fld Z h0 b "java/lang/AbstractStringBuilder" "value" "[B" (.ref tb)) :
    own_M l (⟨"java/lang/AbstractStringBuilder", "getValue", "()[B"⟩ : MethodName) jdk_68_method_64_code 1 (some (.array .byte)) ws ({ frames := 0, cells := 0, slots := 0, locals := 0 } : Room) #[(.ref b)] Z h0 (Q21 Z b tb h0 n0) := by
  refine MetFree.of_bodySF (plainFor_of_name pn_0) hisR ?_
  intro p e s m args below meth cd s₁ Bd hml hP hK
  obtain ⟨rfl, hZ, hh⟩ := hP
  obtain ⟨X0, e0, H, hlk, hown, hret⟩ := own_start (R := ({ frames := 0, cells := 0, slots := 0, locals := 0 } : Room)) Bd hh rfl
  have hx := H.1; have hby := H.2; have N0 := Fr.nil n0
  show own_Fin p e below (own_Ans s (Q21 Z b tb h0 n0) ({ frames := 0, cells := 0, slots := 0, locals := 0 } : Room).cells ({ frames := 0, cells := 0, slots := 0, locals := 0 } : Room).slots) (s₁.setTop (entryFrame m #[(.ref b)] 1))
  refine own_cast (ef_rm21 m b) ?_
  show own_Fin p e below _ (s₁.setTop (mkF m 0 #[.val (.ref b)] []))
  refine o_aldN X0 H (od dB21 0 rfl) rfl rfl ?_
  refine o_gf X0 H hZ hown (ow hw 84 rfl) Via.refl e0 F (od dB21 1 rfl) fun T14 X14 e14 => ?_
  exact own_ret (t := (.array .byte)) X14 hx hlk hret rfl (Or.inr (Or.inr (Or.inr (Or.inr ⟨rfl, rfl, rfl⟩)))) (hb hby (od dB21 2 rfl)) (⟨rfl, N0, e14⟩) (by decide) (by decide)
theorem dB23 : oL jdk_68_method_6_code [(0, .aload_n 0, 1), (1, .getfield 79, 3), (4, .ireturn, 1)] := by unfold oL; decide +kernel
theorem ef_rm23 (m : MethodId) (x0 : Addr) : entryFrame m #[(.ref x0)] 1 = mkF m 0 #[.val (.ref x0)] [] := by first | (simp [entryFrame, mkF, argsToLocals, Value.category]; done) | rfl
def Q23 (Z : State) (b : Addr) (k : Int32) (h0 : Heap) (n0 : Nat) (v : Option Value) (h : Heap) (L : List Loc) : Prop := v = some (.int k) ∧ Fr n0 L ∧ h = h0
set_option maxRecDepth 65536 in
set_option maxHeartbeats 40000000 in
theorem rm23 (l : Launch) (Z : State) (a0 : Array Value) (hw : ∀ d ∈ tables_1, d.before a0 Z = true) (ws : List Jvm.Cond) (b : Addr) (k : Int32) (h0 : Heap) (n0 : Nat) (Z0 : n0 ≤ h0.size) (E : Exa Z h0 b "java/lang/StringBuilder") (F : Fld Z h0 b "java/lang/AbstractStringBuilder" "count" "I" (.int k)) :
    own_M l (⟨"java/lang/AbstractStringBuilder", "length", "()I"⟩ : MethodName) jdk_68_method_6_code 1 (some .int) ws ({ frames := 0, cells := 0, slots := 0, locals := 0 } : Room) #[(.ref b)] Z h0 (Q23 Z b k h0 n0) := by
  refine MetFree.of_bodySF (plainFor_of_name pn_0) hisR ?_
  intro p e s m args below meth cd s₁ Bd hml hP hK
  obtain ⟨rfl, hZ, hh⟩ := hP
  obtain ⟨X0, e0, H, hlk, hown, hret⟩ := own_start (R := ({ frames := 0, cells := 0, slots := 0, locals := 0 } : Room)) Bd hh rfl
  have hx := H.1; have hby := H.2; have N0 := Fr.nil n0
  show own_Fin p e below (own_Ans s (Q23 Z b k h0 n0) ({ frames := 0, cells := 0, slots := 0, locals := 0 } : Room).cells ({ frames := 0, cells := 0, slots := 0, locals := 0 } : Room).slots) (s₁.setTop (entryFrame m #[(.ref b)] 1))
  refine own_cast (ef_rm23 m b) ?_
  show own_Fin p e below _ (s₁.setTop (mkF m 0 #[.val (.ref b)] []))
  refine o_aldN X0 H (od dB23 0 rfl) rfl rfl ?_
  refine o_gf X0 H hZ hown (ow hw 114 rfl) Via.refl e0 F (od dB23 1 rfl) fun T15 X15 e15 => ?_
  exact own_ret (t := .int) X15 hx hlk hret rfl (Or.inl ⟨rfl, (by simp), _, rfl⟩) (hb hby (od dB23 2 rfl)) (⟨rfl, N0, e15⟩) (by decide) (by decide)
theorem dB22 : oL jdk_67_method_93_code [(0, .aload_n 0, 1), (1, .invokespecial 343, 3), (4, .ireturn, 1)] := by unfold oL; decide +kernel
theorem pd_1 : parseMethodDescriptor "()I" = some ⟨[], some .int⟩ := by decide +kernel
theorem ef_rm22 (m : MethodId) (x0 : Addr) : entryFrame m #[(.ref x0)] 1 = mkF m 0 #[.val (.ref x0)] [] := by first | (simp [entryFrame, mkF, argsToLocals, Value.category]; done) | rfl
def Q22 (Z : State) (b : Addr) (k : Int32) (h0 : Heap) (n0 : Nat) (v : Option Value) (h : Heap) (L : List Loc) : Prop := v = some (.int k) ∧ Fr n0 L ∧ h = h0
set_option maxRecDepth 65536 in
set_option maxHeartbeats 40000000 in
theorem rm22 (l : Launch) (Z : State) (a0 : Array Value) (hw : ∀ d ∈ tables_1, d.before a0 Z = true) (ws : List Jvm.Cond) (b : Addr) (k : Int32) (h0 : Heap) (n0 : Nat) (Z0 : n0 ≤ h0.size) (E : Exa Z h0 b "java/lang/StringBuilder") (F : Fld Z h0 b "java/lang/AbstractStringBuilder" "count" "I" (.int k)) :
    own_M l (⟨"java/lang/StringBuilder", "length", "()I"⟩ : MethodName) jdk_67_method_93_code 1 (some .int) ws ({ frames := 1, cells := 0, slots := 0, locals := 12 } : Room) #[(.ref b)] Z h0 (Q22 Z b k h0 n0) := by
  refine MetFree.of_bodySF (plainFor_of_name pn_1) hisR ?_
  intro p e s m args below meth cd s₁ Bd hml hP hK
  obtain ⟨rfl, hZ, hh⟩ := hP
  obtain ⟨X0, e0, H, hlk, hown, hret⟩ := own_start (R := ({ frames := 1, cells := 0, slots := 0, locals := 12 } : Room)) Bd hh rfl
  have hx := H.1; have hby := H.2; have N0 := Fr.nil n0
  show own_Fin p e below (own_Ans s (Q22 Z b k h0 n0) ({ frames := 1, cells := 0, slots := 0, locals := 12 } : Room).cells ({ frames := 1, cells := 0, slots := 0, locals := 12 } : Room).slots) (s₁.setTop (entryFrame m #[(.ref b)] 1))
  refine own_cast (ef_rm22 m b) ?_
  show own_Fin p e below _ (s₁.setTop (mkF m 0 #[.val (.ref b)] []))
  refine o_aldN X0 H (od dB22 0 rfl) rfl rfl ?_
  refine o_bk (superBack X0 hx hZ (y := (⟨"java/lang/AbstractStringBuilder", "length", "()I"⟩ : MethodName)) hown (ow hw 111 rfl) (own_same (ow hw 106 rfl) (ow hw 103 rfl) rfl (by decide)) (ow hw 107 rfl) (ow hw 112 rfl) (by decide) (backOf (W := 0) (rm23 l Z a0 hw [] b k h0 n0 (by exact Z0) E F) hZ (ow hw 113 rfl) (ow hw 80 rfl) (by decide) (by decide)) e0 (Ins.self E) rfl (by exact hml.symm) (ow hw 113 rfl) (argsL := []) (rest := []) (lenOf pd_1 rfl) rfl (o_mr rfl) (hb hby (od dB22 1 rfl)) (fun _ _ => ⟨rfl, e0, (by decide : 0 + 0 ≤ _), (by decide : 0 + 0 ≤ _)⟩)) fun _ T16 Lc16 X16 hQ16 => ?_
  obtain ⟨rfl, N16q, e16⟩ := hQ16
  have N16 := Fr.app N0 N16q
  show own_Fin p e below _ (T16.setTop (mkF m 4 #[.val (.ref b)] [(.int k)]))
  exact own_ret (t := .int) X16 hx hlk hret rfl (Or.inl ⟨rfl, (by simp), _, rfl⟩) (hb hby (od dB22 2 rfl)) (⟨rfl, N16, e16⟩) (by decide) (by decide)
theorem pn_2 : plainName "java/lang/StringLatin1" = true := by first | (simp [plainName, overriddenIn]; done) | decide +kernel
theorem dB33 : oL jdk_43_method_3_code [(0, .iload_n 0, 1), (1, .sipush 255, 3), (4, .if_icmp .gt 7, 3), (7, .iconst 1, 1), (8, .goto 4, 3), (11, .iconst 0, 1), (12, .ireturn, 1)] := by unfold oL; decide +kernel
theorem ef_rm33 (m : MethodId) (x0 : Int32) : entryFrame m #[(.int x0)] 1 = mkF m 0 #[.val (.int x0)] [] := by first | (simp [entryFrame, mkF, argsToLocals, Value.category]; done) | rfl
def Q33 (Z : State) (c : Int32) (h0 : Heap) (n0 : Nat) (v : Option Value) (h : Heap) (L : List Loc) : Prop := v = some (.int (1 : Int32)) ∧ Fr n0 L ∧ h = h0
set_option maxRecDepth 65536 in
set_option maxHeartbeats 40000000 in
theorem rm33 (l : Launch) (Z : State) (a0 : Array Value) (hw : ∀ d ∈ tables_1, d.before a0 Z = true) (ws : List Jvm.Cond) (c : Int32) (h0 : Heap) (n0 : Nat) (Z0 : n0 ≤ h0.size) (rc : ¬ c < 0 ∧ ¬ (255 : Int32) < c) :
    own_M l (⟨"java/lang/StringLatin1", "canEncode", "(C)Z"⟩ : MethodName) jdk_43_method_3_code 1 (some .boolean) ws ({ frames := 0, cells := 0, slots := 0, locals := 0 } : Room) #[(.int c)] Z h0 (Q33 Z c h0 n0) := by
  refine MetFree.of_bodySF (plainFor_of_name pn_2) hisR ?_
  intro p e s m args below meth cd s₁ Bd hml hP hK
  obtain ⟨rfl, hZ, hh⟩ := hP
  obtain ⟨X0, e0, H, hlk, hown, hret⟩ := own_start (R := ({ frames := 0, cells := 0, slots := 0, locals := 0 } : Room)) Bd hh rfl
  have hx := H.1; have hby := H.2; have N0 := Fr.nil n0
  show own_Fin p e below (own_Ans s (Q33 Z c h0 n0) ({ frames := 0, cells := 0, slots := 0, locals := 0 } : Room).cells ({ frames := 0, cells := 0, slots := 0, locals := 0 } : Room).slots) (s₁.setTop (entryFrame m #[(.int c)] 1))
  refine own_cast (ef_rm33 m c) ?_
  show own_Fin p e below _ (s₁.setTop (mkF m 0 #[.val (.int c)] []))
  refine o_ildN X0 H (od dB33 0 rfl) rfl ?_
  refine o_si X0 H (od dB33 1 rfl) (v := 255) rfl ?_
  refine o_icN X0 H (od dB33 2 rfl) (flt rc.2).2.2.1 ?_
  refine o_ic X0 H (od dB33 3 rfl) (v := 1) rfl ?_
  refine o_go X0 H (od dB33 4 rfl) (pc' := 12) (by decide) (by decide) ?_
  exact own_ret (t := .boolean) X0 hx hlk hret rfl (Or.inl ⟨rfl, (by simp), _, rfl⟩) (hb hby (od dB33 6 rfl)) (⟨rfl, N0, e0⟩) (by decide) (by decide)
theorem dB32 : oL jdk_68_method_9_code [(0, .aload_n 0, 1), (1, .getfield 15, 3), (4, .arraylength, 1), (5, .aload_n 0, 1), (6, .getfield 22, 3), (9, .ishr, 1), (10, .istore_n 2, 1), (11, .iload_n 1, 1), (12, .iload_n 2, 1), (13, .isub, 1), (14, .ifCond .le 24, 3), (17, .aload_n 0, 1), (18, .aload_n 0, 1), (19, .getfield 15, 3), (22, .aload_n 0, 1), (23, .iload_n 1, 1), (24, .invokevirtual 104, 3), (27, .aload_n 0, 1), (28, .getfield 22, 3), (31, .ishl, 1), (32, .invokestatic 108, 3), (35, .putfield 15, 3), (38, .return_, 1)] := by unfold oL; decide +kernel
theorem ef_rmEn0 (m : MethodId) (x0 : Addr) (x1 : Int32) : entryFrame m #[(.ref x0), (.int x1)] 3 = mkF m 0 #[.val (.ref x0), .val (.int x1), .unset] [] := by first | (simp [entryFrame, mkF, argsToLocals, Value.category]; done) | rfl
def QEn0 (Z : State) (b : Addr) (tb : Addr) (kt : ClassId) (vs : List Value) (h0 : Heap) (n0 : Nat) (v : Option Value) (h : Heap) (L : List Loc) : Prop := v = none ∧ Fr n0 L ∧ h = h0
set_option maxRecDepth 65536 in
set_option maxHeartbeats 40000000 in
theorem rmEn0 (l : Launch) (Z : State) (a0 : Array Value) (hw : ∀ d ∈ tables_1, d.before a0 Z = true) (ws : List Jvm.Cond) (b : Addr) (tb : Addr) (kt : ClassId) (vs : List Value) (h0 : Heap) (n0 : Nat) (Z0 : n0 ≤ h0.size) (Fv : Fld Z h0 b "java/lang/AbstractStringBuilder" "value" "[B" (.ref tb)) (Fk : Fld Z h0 b "java/lang/AbstractStringBuilder" "coder" "B" (.int (0 : Int32))) (At : Arv Z h0 tb kt .byte (16 : Int32) vs (.int 0)) :
    own_M l (⟨"java/lang/AbstractStringBuilder", "ensureCapacityInternal", "(I)V"⟩ : MethodName) jdk_68_method_9_code 3 none ws ({ frames := 0, cells := 0, slots := 0, locals := 0 } : Room) #[(.ref b), (.int (1 : Int32))] Z h0 (QEn0 Z b tb kt vs h0 n0) := by
  refine MetFree.of_bodySF (plainFor_of_name pn_0) hisR ?_
  intro p e s m args below meth cd s₁ Bd hml hP hK
  obtain ⟨rfl, hZ, hh⟩ := hP
  obtain ⟨X0, e0, H, hlk, hown, hret⟩ := own_start (R := ({ frames := 0, cells := 0, slots := 0, locals := 0 } : Room)) Bd hh rfl
  have hx := H.1; have hby := H.2; have N0 := Fr.nil n0
  show own_Fin p e below (own_Ans s (QEn0 Z b tb kt vs h0 n0) ({ frames := 0, cells := 0, slots := 0, locals := 0 } : Room).cells ({ frames := 0, cells := 0, slots := 0, locals := 0 } : Room).slots) (s₁.setTop (entryFrame m #[(.ref b), (.int (1 : Int32))] 3))
  refine own_cast (ef_rmEn0 m b (1 : Int32)) ?_
  show own_Fin p e below _ (s₁.setTop (mkF m 0 #[.val (.ref b), .val (.int (1 : Int32)), .unset] []))
  refine o_aldN X0 H (od dB32 0 rfl) rfl rfl ?_
  refine o_gf X0 H hZ hown (ow hw 84 rfl) Via.refl e0 Fv (od dB32 1 rfl) fun T17 X17 e17 => ?_
  have cp18 := At
  obtain ⟨cl18, Ar18, q18, S18, G18, H18, F18⟩ := cp18
  refine own_on (fun tq => X17.arraylength hx (by rw [e17]; exact Ar18.1) (State.isArrayOf_alike hZ.alike Ar18.2.1) (g := (mkF m 4 #[.val (.ref b), .val (.int (1 : Int32)), .unset] [(.ref tb)])) rfl rfl (hb hby (od dB32 2 rfl)) tq) ?_
  rw [len_of S18 G18]
  show own_Fin p e below _ (T17.setTop (mkF m 5 #[.val (.ref b), .val (.int (1 : Int32)), .unset] [(.int (16 : Int32))]))
  refine o_aldN X17 H (od dB32 3 rfl) rfl rfl ?_
  refine o_gf X17 H hZ hown (ow hw 86 rfl) Via.refl e17 Fk (od dB32 4 rfl) fun T19 X19 e19 => ?_
  refine own_on (fun tq => XS.ishr X19.here hx rfl (hb hby (od dB32 5 rfl)) rfl) ?_
  show own_Fin p e below _ (T19.setTop (mkF m 10 #[.val (.ref b), .val (.int (1 : Int32)), .unset] [(.int (16 : Int32))]))
  refine o_istN X19 H (od dB32 6 rfl) (L' := #[.val (.ref b), .val (.int (1 : Int32)), .val (.int (16 : Int32))]) rfl ?_
  refine o_ildN X19 H (od dB32 7 rfl) rfl ?_
  refine o_ildN X19 H (od dB32 8 rfl) rfl ?_
  refine own_on (fun tq => XS.isub X19.here hx rfl (hb hby (od dB32 9 rfl)) rfl) ?_
  show own_Fin p e below _ (T19.setTop (mkF m 14 #[.val (.ref b), .val (.int (1 : Int32)), .val (.int (16 : Int32))] [(.int (-15 : Int32))]))
  refine o_ifY X19 H (od dB32 10 rfl) ((if0 _ _).trans (flt (by decide : ¬ ((0 : Int32) < (-15 : Int32)))).2.2.2) (pc' := 38) (by decide) (by decide) ?_
  exact own_retV X19 hx hlk hret (hb hby (od dB32 22 rfl)) (⟨rfl, N0, e19⟩) (by decide) (by decide)
theorem ef_rmEn1 (m : MethodId) (x0 : Addr) (x1 : Int32) : entryFrame m #[(.ref x0), (.int x1)] 3 = mkF m 0 #[.val (.ref x0), .val (.int x1), .unset] [] := by first | (simp [entryFrame, mkF, argsToLocals, Value.category]; done) | rfl
def QEn1 (Z : State) (b : Addr) (tb : Addr) (kt : ClassId) (vs : List Value) (h0 : Heap) (n0 : Nat) (v : Option Value) (h : Heap) (L : List Loc) : Prop := v = none ∧ Fr n0 L ∧ h = h0
set_option maxRecDepth 65536 in
set_option maxHeartbeats 40000000 in
theorem rmEn1 (l : Launch) (Z : State) (a0 : Array Value) (hw : ∀ d ∈ tables_1, d.before a0 Z = true) (ws : List Jvm.Cond) (b : Addr) (tb : Addr) (kt : ClassId) (vs : List Value) (h0 : Heap) (n0 : Nat) (Z0 : n0 ≤ h0.size) (Fv : Fld Z h0 b "java/lang/AbstractStringBuilder" "value" "[B" (.ref tb)) (Fk : Fld Z h0 b "java/lang/AbstractStringBuilder" "coder" "B" (.int (0 : Int32))) (At : Arv Z h0 tb kt .byte (16 : Int32) vs (.int 0)) :
    own_M l (⟨"java/lang/AbstractStringBuilder", "ensureCapacityInternal", "(I)V"⟩ : MethodName) jdk_68_method_9_code 3 none ws ({ frames := 0, cells := 0, slots := 0, locals := 0 } : Room) #[(.ref b), (.int (2 : Int32))] Z h0 (QEn1 Z b tb kt vs h0 n0) := by
  refine MetFree.of_bodySF (plainFor_of_name pn_0) hisR ?_
  intro p e s m args below meth cd s₁ Bd hml hP hK
  obtain ⟨rfl, hZ, hh⟩ := hP
  obtain ⟨X0, e0, H, hlk, hown, hret⟩ := own_start (R := ({ frames := 0, cells := 0, slots := 0, locals := 0 } : Room)) Bd hh rfl
  have hx := H.1; have hby := H.2; have N0 := Fr.nil n0
  show own_Fin p e below (own_Ans s (QEn1 Z b tb kt vs h0 n0) ({ frames := 0, cells := 0, slots := 0, locals := 0 } : Room).cells ({ frames := 0, cells := 0, slots := 0, locals := 0 } : Room).slots) (s₁.setTop (entryFrame m #[(.ref b), (.int (2 : Int32))] 3))
  refine own_cast (ef_rmEn1 m b (2 : Int32)) ?_
  show own_Fin p e below _ (s₁.setTop (mkF m 0 #[.val (.ref b), .val (.int (2 : Int32)), .unset] []))
  refine o_aldN X0 H (od dB32 0 rfl) rfl rfl ?_
  refine o_gf X0 H hZ hown (ow hw 84 rfl) Via.refl e0 Fv (od dB32 1 rfl) fun T20 X20 e20 => ?_
  have cp21 := At
  obtain ⟨cl21, Ar21, q21, S21, G21, H21, F21⟩ := cp21
  refine own_on (fun tq => X20.arraylength hx (by rw [e20]; exact Ar21.1) (State.isArrayOf_alike hZ.alike Ar21.2.1) (g := (mkF m 4 #[.val (.ref b), .val (.int (2 : Int32)), .unset] [(.ref tb)])) rfl rfl (hb hby (od dB32 2 rfl)) tq) ?_
  rw [len_of S21 G21]
  show own_Fin p e below _ (T20.setTop (mkF m 5 #[.val (.ref b), .val (.int (2 : Int32)), .unset] [(.int (16 : Int32))]))
  refine o_aldN X20 H (od dB32 3 rfl) rfl rfl ?_
  refine o_gf X20 H hZ hown (ow hw 86 rfl) Via.refl e20 Fk (od dB32 4 rfl) fun T22 X22 e22 => ?_
  refine own_on (fun tq => XS.ishr X22.here hx rfl (hb hby (od dB32 5 rfl)) rfl) ?_
  show own_Fin p e below _ (T22.setTop (mkF m 10 #[.val (.ref b), .val (.int (2 : Int32)), .unset] [(.int (16 : Int32))]))
  refine o_istN X22 H (od dB32 6 rfl) (L' := #[.val (.ref b), .val (.int (2 : Int32)), .val (.int (16 : Int32))]) rfl ?_
  refine o_ildN X22 H (od dB32 7 rfl) rfl ?_
  refine o_ildN X22 H (od dB32 8 rfl) rfl ?_
  refine own_on (fun tq => XS.isub X22.here hx rfl (hb hby (od dB32 9 rfl)) rfl) ?_
  show own_Fin p e below _ (T22.setTop (mkF m 14 #[.val (.ref b), .val (.int (2 : Int32)), .val (.int (16 : Int32))] [(.int (-14 : Int32))]))
  refine o_ifY X22 H (od dB32 10 rfl) ((if0 _ _).trans (flt (by decide : ¬ ((0 : Int32) < (-14 : Int32)))).2.2.2) (pc' := 38) (by decide) (by decide) ?_
  exact own_retV X22 hx hlk hret (hb hby (od dB32 22 rfl)) (⟨rfl, N0, e22⟩) (by decide) (by decide)
theorem ef_rmEn2 (m : MethodId) (x0 : Addr) (x1 : Int32) : entryFrame m #[(.ref x0), (.int x1)] 3 = mkF m 0 #[.val (.ref x0), .val (.int x1), .unset] [] := by first | (simp [entryFrame, mkF, argsToLocals, Value.category]; done) | rfl
def QEn2 (Z : State) (b : Addr) (tb : Addr) (kt : ClassId) (vs : List Value) (h0 : Heap) (n0 : Nat) (v : Option Value) (h : Heap) (L : List Loc) : Prop := v = none ∧ Fr n0 L ∧ h = h0
set_option maxRecDepth 65536 in
set_option maxHeartbeats 40000000 in
theorem rmEn2 (l : Launch) (Z : State) (a0 : Array Value) (hw : ∀ d ∈ tables_1, d.before a0 Z = true) (ws : List Jvm.Cond) (b : Addr) (tb : Addr) (kt : ClassId) (vs : List Value) (h0 : Heap) (n0 : Nat) (Z0 : n0 ≤ h0.size) (Fv : Fld Z h0 b "java/lang/AbstractStringBuilder" "value" "[B" (.ref tb)) (Fk : Fld Z h0 b "java/lang/AbstractStringBuilder" "coder" "B" (.int (0 : Int32))) (At : Arv Z h0 tb kt .byte (16 : Int32) vs (.int 0)) :
    own_M l (⟨"java/lang/AbstractStringBuilder", "ensureCapacityInternal", "(I)V"⟩ : MethodName) jdk_68_method_9_code 3 none ws ({ frames := 0, cells := 0, slots := 0, locals := 0 } : Room) #[(.ref b), (.int (3 : Int32))] Z h0 (QEn2 Z b tb kt vs h0 n0) := by
  refine MetFree.of_bodySF (plainFor_of_name pn_0) hisR ?_
  intro p e s m args below meth cd s₁ Bd hml hP hK
  obtain ⟨rfl, hZ, hh⟩ := hP
  obtain ⟨X0, e0, H, hlk, hown, hret⟩ := own_start (R := ({ frames := 0, cells := 0, slots := 0, locals := 0 } : Room)) Bd hh rfl
  have hx := H.1; have hby := H.2; have N0 := Fr.nil n0
  show own_Fin p e below (own_Ans s (QEn2 Z b tb kt vs h0 n0) ({ frames := 0, cells := 0, slots := 0, locals := 0 } : Room).cells ({ frames := 0, cells := 0, slots := 0, locals := 0 } : Room).slots) (s₁.setTop (entryFrame m #[(.ref b), (.int (3 : Int32))] 3))
  refine own_cast (ef_rmEn2 m b (3 : Int32)) ?_
  show own_Fin p e below _ (s₁.setTop (mkF m 0 #[.val (.ref b), .val (.int (3 : Int32)), .unset] []))
  refine o_aldN X0 H (od dB32 0 rfl) rfl rfl ?_
  refine o_gf X0 H hZ hown (ow hw 84 rfl) Via.refl e0 Fv (od dB32 1 rfl) fun T23 X23 e23 => ?_
  have cp24 := At
  obtain ⟨cl24, Ar24, q24, S24, G24, H24, F24⟩ := cp24
  refine own_on (fun tq => X23.arraylength hx (by rw [e23]; exact Ar24.1) (State.isArrayOf_alike hZ.alike Ar24.2.1) (g := (mkF m 4 #[.val (.ref b), .val (.int (3 : Int32)), .unset] [(.ref tb)])) rfl rfl (hb hby (od dB32 2 rfl)) tq) ?_
  rw [len_of S24 G24]
  show own_Fin p e below _ (T23.setTop (mkF m 5 #[.val (.ref b), .val (.int (3 : Int32)), .unset] [(.int (16 : Int32))]))
  refine o_aldN X23 H (od dB32 3 rfl) rfl rfl ?_
  refine o_gf X23 H hZ hown (ow hw 86 rfl) Via.refl e23 Fk (od dB32 4 rfl) fun T25 X25 e25 => ?_
  refine own_on (fun tq => XS.ishr X25.here hx rfl (hb hby (od dB32 5 rfl)) rfl) ?_
  show own_Fin p e below _ (T25.setTop (mkF m 10 #[.val (.ref b), .val (.int (3 : Int32)), .unset] [(.int (16 : Int32))]))
  refine o_istN X25 H (od dB32 6 rfl) (L' := #[.val (.ref b), .val (.int (3 : Int32)), .val (.int (16 : Int32))]) rfl ?_
  refine o_ildN X25 H (od dB32 7 rfl) rfl ?_
  refine o_ildN X25 H (od dB32 8 rfl) rfl ?_
  refine own_on (fun tq => XS.isub X25.here hx rfl (hb hby (od dB32 9 rfl)) rfl) ?_
  show own_Fin p e below _ (T25.setTop (mkF m 14 #[.val (.ref b), .val (.int (3 : Int32)), .val (.int (16 : Int32))] [(.int (-13 : Int32))]))
  refine o_ifY X25 H (od dB32 10 rfl) ((if0 _ _).trans (flt (by decide : ¬ ((0 : Int32) < (-13 : Int32)))).2.2.2) (pc' := 38) (by decide) (by decide) ?_
  exact own_retV X25 hx hlk hret (hb hby (od dB32 22 rfl)) (⟨rfl, N0, e25⟩) (by decide) (by decide)
theorem dB31 : oL jdk_68_method_31_code [(0, .aload_n 0, 1), (1, .aload_n 0, 1), (2, .getfield 79, 3), (5, .iconst 1, 1), (6, .iadd, 1), (7, .invokevirtual 100, 3), (10, .aload_n 0, 1), (11, .invokevirtual 83, 3), (14, .ifCond .eq 31, 3), (17, .iload_n 1, 1), (18, .invokestatic 191, 3), (21, .ifCond .eq 24, 3), (24, .aload_n 0, 1), (25, .getfield 15, 3), (28, .aload_n 0, 1), (29, .dup, 1), (30, .getfield 79, 3), (33, .dup_x1, 1), (34, .iconst 1, 1), (35, .iadd, 1), (36, .putfield 79, 3), (39, .iload_n 1, 1), (40, .i2b, 1), (41, .bastore, 1), (42, .goto 33, 3), (45, .aload_n 0, 1), (46, .invokevirtual 83, 3), (49, .ifCond .eq 7, 3), (52, .aload_n 0, 1), (53, .invokevirtual 195, 3), (56, .aload_n 0, 1), (57, .getfield 15, 3), (60, .aload_n 0, 1), (61, .dup, 1), (62, .getfield 79, 3), (65, .dup_x1, 1), (66, .iconst 1, 1), (67, .iadd, 1), (68, .putfield 79, 3), (71, .iload_n 1, 1), (72, .invokestatic 197, 3), (75, .aload_n 0, 1), (76, .areturn, 1)] := by unfold oL; decide +kernel
theorem pd_2 : parseMethodDescriptor "()Z" = some ⟨[], some .boolean⟩ := by decide +kernel
theorem pd_3 : parseMethodDescriptor "(C)Z" = some ⟨[.char], some .boolean⟩ := by decide +kernel
theorem ef_rmPa0 (m : MethodId) (x0 : Addr) (x1 : Int32) : entryFrame m #[(.ref x0), (.int x1)] 2 = mkF m 0 #[.val (.ref x0), .val (.int x1)] [] := by first | (simp [entryFrame, mkF, argsToLocals, Value.category]; done) | rfl
def QPa0 (Z : State) (b : Addr) (c : Int32) (z : Int32) (tb : Addr) (kt : ClassId) (h0 : Heap) (n0 : Nat) (v : Option Value) (h : Heap) (L : List Loc) : Prop := v = some (.ref b) ∧ Fr n0 L ∧ Keep h0 h [b, tb] ∧ Exa Z h b "java/lang/StringBuilder" ∧ Fld Z h b "java/lang/AbstractStringBuilder" "value" "[B" (.ref tb) ∧ Fld Z h b "java/lang/AbstractStringBuilder" "count" "I" (.int (1 : Int32)) ∧ Fld Z h b "java/lang/AbstractStringBuilder" "coder" "B" (.int (0 : Int32)) ∧ Arv Z h tb kt .byte (16 : Int32) [(.int (StrChars.lo8 c)), (.int (0 : Int32)), (.int (0 : Int32)), (.int (0 : Int32)), (.int (0 : Int32)), (.int (0 : Int32)), (.int (0 : Int32)), (.int (0 : Int32)), (.int (0 : Int32)), (.int (0 : Int32)), (.int (0 : Int32)), (.int (0 : Int32)), (.int (0 : Int32)), (.int (0 : Int32)), (.int (0 : Int32)), (.int (0 : Int32))] (.int 0)
set_option maxRecDepth 65536 in
set_option maxHeartbeats 40000000 in
theorem rmPa0 (l : Launch) (Z : State) (a0 : Array Value) (hw : ∀ d ∈ tables_1, d.before a0 Z = true) (ws : List Jvm.Cond) (b : Addr) (c : Int32) (z : Int32) (tb : Addr) (kt : ClassId) (h0 : Heap) (n0 : Nat) (Z0 : n0 ≤ h0.size) (hz : ¬ z = (0 : Int32)) (O : Old Z n0 h0) (SC : Sta Z Z.heap "java/lang/String" "COMPACT_STRINGS" "Z" (.int z)) (Eb : Exa Z h0 b "java/lang/StringBuilder") (Fv : Fld Z h0 b "java/lang/AbstractStringBuilder" "value" "[B" (.ref tb)) (Fc : Fld Z h0 b "java/lang/AbstractStringBuilder" "count" "I" (.int (0 : Int32))) (Fk : Fld Z h0 b "java/lang/AbstractStringBuilder" "coder" "B" (.int (0 : Int32))) (At : Arv Z h0 tb kt .byte (16 : Int32) [(.int (0 : Int32)), (.int (0 : Int32)), (.int (0 : Int32)), (.int (0 : Int32)), (.int (0 : Int32)), (.int (0 : Int32)), (.int (0 : Int32)), (.int (0 : Int32)), (.int (0 : Int32)), (.int (0 : Int32)), (.int (0 : Int32)), (.int (0 : Int32)), (.int (0 : Int32)), (.int (0 : Int32)), (.int (0 : Int32)), (.int (0 : Int32))] (.int 0)) (gb : n0 ≤ b) (gt : n0 ≤ tb) (nbt : b ≠ tb) (rc : ¬ c < 0 ∧ ¬ (255 : Int32) < c) :
    own_M l (⟨"java/lang/AbstractStringBuilder", "append", "(C)Ljava/lang/AbstractStringBuilder;"⟩ : MethodName) jdk_68_method_31_code 2 (some (.object "java/lang/AbstractStringBuilder")) ws ({ frames := 1, cells := 0, slots := 0, locals := 14 } : Room) #[(.ref b), (.int c)] Z h0 (QPa0 Z b c z tb kt h0 n0) := by
  refine MetFree.of_bodySF (plainFor_of_name pn_0) hisR ?_
  intro p e s m args below meth cd s₁ Bd hml hP hK
  obtain ⟨rfl, hZ, hh⟩ := hP
  obtain ⟨X0, e0, H, hlk, hown, hret⟩ := own_start (R := ({ frames := 1, cells := 0, slots := 0, locals := 14 } : Room)) Bd hh rfl
  have hx := H.1; have hby := H.2; have N0 := Fr.nil n0
  show own_Fin p e below (own_Ans s (QPa0 Z b c z tb kt h0 n0) ({ frames := 1, cells := 0, slots := 0, locals := 14 } : Room).cells ({ frames := 1, cells := 0, slots := 0, locals := 14 } : Room).slots) (s₁.setTop (entryFrame m #[(.ref b), (.int c)] 2))
  refine own_cast (ef_rmPa0 m b c) ?_
  show own_Fin p e below _ (s₁.setTop (mkF m 0 #[.val (.ref b), .val (.int c)] []))
  refine o_aldN X0 H (od dB31 0 rfl) rfl rfl ?_
  refine o_aldN X0 H (od dB31 1 rfl) rfl rfl ?_
  refine o_gf X0 H hZ hown (ow hw 114 rfl) Via.refl e0 Fc (od dB31 2 rfl) fun T26 X26 e26 => ?_
  refine o_ic X26 H (od dB31 3 rfl) (v := 1) rfl ?_
  refine own_on (fun tq => XS.iadd X26.here hx rfl (hb hby (od dB31 4 rfl)) rfl) ?_
  show own_Fin p e below _ (T26.setTop (mkF m 7 #[.val (.ref b), .val (.int c)] [(.int (1 : Int32)), (.ref b)]))
  refine o_pc (argsL := [(.int (1 : Int32))]) (rest := []) X26 H hml hZ hown (ow hw 152 rfl) (ow hw 153 rfl) (own_selfsel (mvT hZ (ow hw 155 rfl)) (Cond.privateMethod_at (mvP hZ (ow hw 154 rfl) (args := #[]))) (mvT hZ (ow hw 153 rfl)) (by decide)) (ow hw 154 rfl) (ow hw 156 rfl) (backOf (W := 0) (rmEn0 l Z a0 hw [] b tb kt _ h0 n0 (by exact Z0) Fv Fk At) hZ (ow hw 156 rfl) (ow hw 80 rfl) (by decide) (by decide)) (by decide) Eb e26 pd_0 (od dB31 5 rfl) rfl rfl rfl rfl rfl (by decide) (by decide) (o_pv (fun _ _ _ q => q) N0 fun T27 Lc27 X27 N27 e27 => ?_)
  refine o_aldN X27 H (od dB31 6 rfl) rfl rfl ?_
  refine o_vs (argsL := []) (rest := []) X27 H hml hZ hown (ow hw 157 rfl) (ow hw 117 rfl) (ow hw 119 rfl) (ow hw 118 rfl) (backOf (W := 0) (rm24 l Z a0 hw [] b z h0 n0 (by exact Z0) hz O SC Fk) hZ (ow hw 120 rfl) (ow hw 80 rfl) (by decide) (by decide)) (by decide) Eb e27 pd_2 (od dB31 7 rfl) rfl rfl rfl rfl rfl (by decide) (by decide) (o_pk (fun _ _ _ q => q) N27 fun T28 Lc28 X28 N28 e28 => ?_)
  refine o_ifN X28 H (od dB31 8 rfl) ((if0 _ _).trans (feq (by decide : ¬ ((1 : Int32) = (0 : Int32)))).1) ?_
  refine o_ildN X28 H (od dB31 9 rfl) rfl ?_
  refine o_tc (argsL := [(.int c)]) (rest := []) X28 H hml hZ hown (ow hw 158 rfl) (ow hw 159 rfl) (ow hw 60 rfl) (ow hw 160 rfl) (backOf (W := 0) (rm33 l Z a0 hw [] c h0 n0 (by exact Z0) rc) hZ (ow hw 160 rfl) (ow hw 60 rfl) (by decide) (by decide)) (by decide) e28 pd_3 (od dB31 10 rfl) rfl rfl rfl rfl rfl (by decide) (by decide) (o_pk (fun _ _ _ q => q) N28 fun T29 Lc29 X29 N29 e29 => ?_)
  refine o_ifN X29 H (od dB31 11 rfl) ((if0 _ _).trans (feq (by decide : ¬ ((1 : Int32) = (0 : Int32)))).1) ?_
  refine o_aldN X29 H (od dB31 12 rfl) rfl rfl ?_
  refine o_gf X29 H hZ hown (ow hw 84 rfl) Via.refl e29 Fv (od dB31 13 rfl) fun T30 X30 e30 => ?_
  refine o_aldN X30 H (od dB31 14 rfl) rfl rfl ?_
  refine o_dup X30 H (od dB31 15 rfl) rfl ?_
  refine o_gf X30 H hZ hown (ow hw 114 rfl) Via.refl e30 Fc (od dB31 16 rfl) fun T31 X31 e31 => ?_
  refine own_on (fun tq => XS.dupX1 X31.here hx rfl (hb hby (od dB31 17 rfl)) rfl rfl rfl) ?_
  show own_Fin p e below _ (T31.setTop (mkF m 34 #[.val (.ref b), .val (.int c)] [(.int (0 : Int32)), (.ref b), (.int (0 : Int32)), (.ref tb)]))
  refine o_ic X31 H (od dB31 18 rfl) (v := 1) rfl ?_
  refine own_on (fun tq => XS.iadd X31.here hx rfl (hb hby (od dB31 19 rfl)) rfl) ?_
  show own_Fin p e below _ (T31.setTop (mkF m 36 #[.val (.ref b), .val (.int c)] [(.int (1 : Int32)), (.ref b), (.int (0 : Int32)), (.ref tb)]))
  obtain ⟨T32, h32, X32, e32, W32, st32⟩ := putF X31 hx hZ hown (host := "") (Or.inl (ow hw 114 rfl)) Via.refl e31 Fc Eb (Or.inl (ow hw 115 rfl)) (ow hw 71 rfl) (ty := .int) (by decide) rfl rfl (g := (mkF m 36 #[.val (.ref b), .val (.int c)] [(.int (1 : Int32)), (.ref b), (.int (0 : Int32)), (.ref tb)])) rfl rfl (hb hby (od dB31 20 rfl))
  have N32 := Fr.snoc X32 N29 gb
  have y33 := (Fv.other W32 (Or.inr (slot_ne (Or.inl (ow hw 85 rfl)) (Or.inl (ow hw 115 rfl)) (by decide) (t := (.array .byte)) (t' := .int) (by decide) (by decide))))
  have y34 := (Fk.other W32 (Or.inr (slot_ne (Or.inl (ow hw 87 rfl)) (Or.inl (ow hw 115 rfl)) (by decide) (t := .byte) (t' := .int) (by decide) (by decide))))
  refine own_on st32 ?_
  show own_Fin p e below _ (T32.setTop (mkF m 39 #[.val (.ref b), .val (.int c)] [(.int (0 : Int32)), (.ref tb)]))
  refine o_ildN X32 H (od dB31 21 rfl) rfl ?_
  refine own_on (fun tq => XS.i2b X32.here hx rfl (hb hby (od dB31 22 rfl)) rfl) ?_
  show own_Fin p e below _ (T32.setTop (mkF m 41 #[.val (.ref b), .val (.int c)] [(.int (c.toInt8.toInt32)), (.int (0 : Int32)), (.ref tb)]))
  have cp35 := (At.other W32 (Ne.symm nbt))
  obtain ⟨cl35, Ar35, q35, S35, G35, H35, F35⟩ := cp35
  have hin35 : ¬ ((0 : Int32) < 0 ∨ cl35.slots.size ≤ ((0 : Int32)).toNatClampNeg) := inb_of S35 ⟨by decide, by decide⟩
  obtain ⟨T35, h35, X35, e35, W35, st35⟩ := stB X32 hx hZ e32 Ar35 (j := (0 : Int32)) hin35 (g := (mkF m 41 #[.val (.ref b), .val (.int c)] [(.int (c.toInt8.toInt32)), (.int (0 : Int32)), (.ref tb)])) rfl rfl (hb hby (od dB31 23 rfl))
  have V35 : Arv Z h35 tb kt .byte (16 : Int32) [(.int (nar .byte (c.toInt8.toInt32))), (.int (0 : Int32)), (.int (0 : Int32)), (.int (0 : Int32)), (.int (0 : Int32)), (.int (0 : Int32)), (.int (0 : Int32)), (.int (0 : Int32)), (.int (0 : Int32)), (.int (0 : Int32)), (.int (0 : Int32)), (.int (0 : Int32)), (.int (0 : Int32)), (.int (0 : Int32)), (.int (0 : Int32)), (.int (0 : Int32))] (.int 0) := Arv.set Ar35 q35 S35 G35 H35 F35 (fits_nar_byte _) W35 0 rfl (Nat.le_of_ble_eq_true rfl)
  have N35 := Fr.snoc X35 N32 gt
  have y36 := (((Keep.refl h0 [b, tb]).wr W32 (Or.inl (List.mem_of_getElem? (i := 0) rfl))).wr W35 (Or.inl (List.mem_of_getElem? (i := 1) rfl)))
  refine own_on st35 ?_
  show own_Fin p e below _ (T35.setTop (mkF m 42 #[.val (.ref b), .val (.int c)] []))
  refine o_go X35 H (od dB31 24 rfl) (pc' := 75) (by decide) (by decide) ?_
  refine o_aldN X35 H (od dB31 41 rfl) rfl rfl ?_
  exact own_ret (t := (.object "java/lang/AbstractStringBuilder")) X35 hx hlk hret rfl (Or.inr (Or.inr (Or.inr (Or.inr ⟨rfl, rfl, rfl⟩)))) (hb hby (od dB31 42 rfl)) (by show QPa0 Z b c z tb kt h0 n0 _ T35.heap _; rw [e35]; exact ⟨rfl, N35, y36, ((Eb.wr W32).wr W35), (y33.other W35 (Or.inl nbt)), ((Fc.same W32).other W35 (Or.inl nbt)), (y34.other W35 (Or.inl nbt)), (by have q := V35; rw [own_narb] at q; exact q)⟩) (by decide) (by decide)
theorem ef_rmPa1 (m : MethodId) (x0 : Addr) (x1 : Int32) : entryFrame m #[(.ref x0), (.int x1)] 2 = mkF m 0 #[.val (.ref x0), .val (.int x1)] [] := by first | (simp [entryFrame, mkF, argsToLocals, Value.category]; done) | rfl
def QPa1 (Z : State) (b : Addr) (c : Int32) (z : Int32) (tb : Addr) (kt : ClassId) (d0 : Int32) (h0 : Heap) (n0 : Nat) (v : Option Value) (h : Heap) (L : List Loc) : Prop := v = some (.ref b) ∧ Fr n0 L ∧ Keep h0 h [b, tb] ∧ Exa Z h b "java/lang/StringBuilder" ∧ Fld Z h b "java/lang/AbstractStringBuilder" "value" "[B" (.ref tb) ∧ Fld Z h b "java/lang/AbstractStringBuilder" "count" "I" (.int (2 : Int32)) ∧ Fld Z h b "java/lang/AbstractStringBuilder" "coder" "B" (.int (0 : Int32)) ∧ Arv Z h tb kt .byte (16 : Int32) [(.int (StrChars.lo8 d0)), (.int (StrChars.lo8 c)), (.int (0 : Int32)), (.int (0 : Int32)), (.int (0 : Int32)), (.int (0 : Int32)), (.int (0 : Int32)), (.int (0 : Int32)), (.int (0 : Int32)), (.int (0 : Int32)), (.int (0 : Int32)), (.int (0 : Int32)), (.int (0 : Int32)), (.int (0 : Int32)), (.int (0 : Int32)), (.int (0 : Int32))] (.int 0)
set_option maxRecDepth 65536 in
set_option maxHeartbeats 40000000 in
theorem rmPa1 (l : Launch) (Z : State) (a0 : Array Value) (hw : ∀ d ∈ tables_1, d.before a0 Z = true) (ws : List Jvm.Cond) (b : Addr) (c : Int32) (z : Int32) (tb : Addr) (kt : ClassId) (d0 : Int32) (h0 : Heap) (n0 : Nat) (Z0 : n0 ≤ h0.size) (hz : ¬ z = (0 : Int32)) (O : Old Z n0 h0) (SC : Sta Z Z.heap "java/lang/String" "COMPACT_STRINGS" "Z" (.int z)) (Eb : Exa Z h0 b "java/lang/StringBuilder") (Fv : Fld Z h0 b "java/lang/AbstractStringBuilder" "value" "[B" (.ref tb)) (Fc : Fld Z h0 b "java/lang/AbstractStringBuilder" "count" "I" (.int (1 : Int32))) (Fk : Fld Z h0 b "java/lang/AbstractStringBuilder" "coder" "B" (.int (0 : Int32))) (At : Arv Z h0 tb kt .byte (16 : Int32) [(.int (StrChars.lo8 d0)), (.int (0 : Int32)), (.int (0 : Int32)), (.int (0 : Int32)), (.int (0 : Int32)), (.int (0 : Int32)), (.int (0 : Int32)), (.int (0 : Int32)), (.int (0 : Int32)), (.int (0 : Int32)), (.int (0 : Int32)), (.int (0 : Int32)), (.int (0 : Int32)), (.int (0 : Int32)), (.int (0 : Int32)), (.int (0 : Int32))] (.int 0)) (gb : n0 ≤ b) (gt : n0 ≤ tb) (nbt : b ≠ tb) (rc : ¬ c < 0 ∧ ¬ (255 : Int32) < c) :
    own_M l (⟨"java/lang/AbstractStringBuilder", "append", "(C)Ljava/lang/AbstractStringBuilder;"⟩ : MethodName) jdk_68_method_31_code 2 (some (.object "java/lang/AbstractStringBuilder")) ws ({ frames := 1, cells := 0, slots := 0, locals := 14 } : Room) #[(.ref b), (.int c)] Z h0 (QPa1 Z b c z tb kt d0 h0 n0) := by
  refine MetFree.of_bodySF (plainFor_of_name pn_0) hisR ?_
  intro p e s m args below meth cd s₁ Bd hml hP hK
  obtain ⟨rfl, hZ, hh⟩ := hP
  obtain ⟨X0, e0, H, hlk, hown, hret⟩ := own_start (R := ({ frames := 1, cells := 0, slots := 0, locals := 14 } : Room)) Bd hh rfl
  have hx := H.1; have hby := H.2; have N0 := Fr.nil n0
  show own_Fin p e below (own_Ans s (QPa1 Z b c z tb kt d0 h0 n0) ({ frames := 1, cells := 0, slots := 0, locals := 14 } : Room).cells ({ frames := 1, cells := 0, slots := 0, locals := 14 } : Room).slots) (s₁.setTop (entryFrame m #[(.ref b), (.int c)] 2))
  refine own_cast (ef_rmPa1 m b c) ?_
  show own_Fin p e below _ (s₁.setTop (mkF m 0 #[.val (.ref b), .val (.int c)] []))
  refine o_aldN X0 H (od dB31 0 rfl) rfl rfl ?_
  refine o_aldN X0 H (od dB31 1 rfl) rfl rfl ?_
  refine o_gf X0 H hZ hown (ow hw 114 rfl) Via.refl e0 Fc (od dB31 2 rfl) fun T37 X37 e37 => ?_
  refine o_ic X37 H (od dB31 3 rfl) (v := 1) rfl ?_
  refine own_on (fun tq => XS.iadd X37.here hx rfl (hb hby (od dB31 4 rfl)) rfl) ?_
  show own_Fin p e below _ (T37.setTop (mkF m 7 #[.val (.ref b), .val (.int c)] [(.int (2 : Int32)), (.ref b)]))
  refine o_pc (argsL := [(.int (2 : Int32))]) (rest := []) X37 H hml hZ hown (ow hw 152 rfl) (ow hw 153 rfl) (own_selfsel (mvT hZ (ow hw 155 rfl)) (Cond.privateMethod_at (mvP hZ (ow hw 154 rfl) (args := #[]))) (mvT hZ (ow hw 153 rfl)) (by decide)) (ow hw 154 rfl) (ow hw 156 rfl) (backOf (W := 0) (rmEn1 l Z a0 hw [] b tb kt _ h0 n0 (by exact Z0) Fv Fk At) hZ (ow hw 156 rfl) (ow hw 80 rfl) (by decide) (by decide)) (by decide) Eb e37 pd_0 (od dB31 5 rfl) rfl rfl rfl rfl rfl (by decide) (by decide) (o_pv (fun _ _ _ q => q) N0 fun T38 Lc38 X38 N38 e38 => ?_)
  refine o_aldN X38 H (od dB31 6 rfl) rfl rfl ?_
  refine o_vs (argsL := []) (rest := []) X38 H hml hZ hown (ow hw 157 rfl) (ow hw 117 rfl) (ow hw 119 rfl) (ow hw 118 rfl) (backOf (W := 0) (rm24 l Z a0 hw [] b z h0 n0 (by exact Z0) hz O SC Fk) hZ (ow hw 120 rfl) (ow hw 80 rfl) (by decide) (by decide)) (by decide) Eb e38 pd_2 (od dB31 7 rfl) rfl rfl rfl rfl rfl (by decide) (by decide) (o_pk (fun _ _ _ q => q) N38 fun T39 Lc39 X39 N39 e39 => ?_)
  refine o_ifN X39 H (od dB31 8 rfl) ((if0 _ _).trans (feq (by decide : ¬ ((1 : Int32) = (0 : Int32)))).1) ?_
  refine o_ildN X39 H (od dB31 9 rfl) rfl ?_
  refine o_tc (argsL := [(.int c)]) (rest := []) X39 H hml hZ hown (ow hw 158 rfl) (ow hw 159 rfl) (ow hw 60 rfl) (ow hw 160 rfl) (backOf (W := 0) (rm33 l Z a0 hw [] c h0 n0 (by exact Z0) rc) hZ (ow hw 160 rfl) (ow hw 60 rfl) (by decide) (by decide)) (by decide) e39 pd_3 (od dB31 10 rfl) rfl rfl rfl rfl rfl (by decide) (by decide) (o_pk (fun _ _ _ q => q) N39 fun T40 Lc40 X40 N40 e40 => ?_)
  refine o_ifN X40 H (od dB31 11 rfl) ((if0 _ _).trans (feq (by decide : ¬ ((1 : Int32) = (0 : Int32)))).1) ?_
  refine o_aldN X40 H (od dB31 12 rfl) rfl rfl ?_
  refine o_gf X40 H hZ hown (ow hw 84 rfl) Via.refl e40 Fv (od dB31 13 rfl) fun T41 X41 e41 => ?_
  refine o_aldN X41 H (od dB31 14 rfl) rfl rfl ?_
  refine o_dup X41 H (od dB31 15 rfl) rfl ?_
  refine o_gf X41 H hZ hown (ow hw 114 rfl) Via.refl e41 Fc (od dB31 16 rfl) fun T42 X42 e42 => ?_
  refine own_on (fun tq => XS.dupX1 X42.here hx rfl (hb hby (od dB31 17 rfl)) rfl rfl rfl) ?_
  show own_Fin p e below _ (T42.setTop (mkF m 34 #[.val (.ref b), .val (.int c)] [(.int (1 : Int32)), (.ref b), (.int (1 : Int32)), (.ref tb)]))
  refine o_ic X42 H (od dB31 18 rfl) (v := 1) rfl ?_
  refine own_on (fun tq => XS.iadd X42.here hx rfl (hb hby (od dB31 19 rfl)) rfl) ?_
  show own_Fin p e below _ (T42.setTop (mkF m 36 #[.val (.ref b), .val (.int c)] [(.int (2 : Int32)), (.ref b), (.int (1 : Int32)), (.ref tb)]))
  obtain ⟨T43, h43, X43, e43, W43, st43⟩ := putF X42 hx hZ hown (host := "") (Or.inl (ow hw 114 rfl)) Via.refl e42 Fc Eb (Or.inl (ow hw 115 rfl)) (ow hw 71 rfl) (ty := .int) (by decide) rfl rfl (g := (mkF m 36 #[.val (.ref b), .val (.int c)] [(.int (2 : Int32)), (.ref b), (.int (1 : Int32)), (.ref tb)])) rfl rfl (hb hby (od dB31 20 rfl))
  have N43 := Fr.snoc X43 N40 gb
  have y44 := (Fv.other W43 (Or.inr (slot_ne (Or.inl (ow hw 85 rfl)) (Or.inl (ow hw 115 rfl)) (by decide) (t := (.array .byte)) (t' := .int) (by decide) (by decide))))
  have y45 := (Fk.other W43 (Or.inr (slot_ne (Or.inl (ow hw 87 rfl)) (Or.inl (ow hw 115 rfl)) (by decide) (t := .byte) (t' := .int) (by decide) (by decide))))
  refine own_on st43 ?_
  show own_Fin p e below _ (T43.setTop (mkF m 39 #[.val (.ref b), .val (.int c)] [(.int (1 : Int32)), (.ref tb)]))
  refine o_ildN X43 H (od dB31 21 rfl) rfl ?_
  refine own_on (fun tq => XS.i2b X43.here hx rfl (hb hby (od dB31 22 rfl)) rfl) ?_
  show own_Fin p e below _ (T43.setTop (mkF m 41 #[.val (.ref b), .val (.int c)] [(.int (c.toInt8.toInt32)), (.int (1 : Int32)), (.ref tb)]))
  have cp46 := (At.other W43 (Ne.symm nbt))
  obtain ⟨cl46, Ar46, q46, S46, G46, H46, F46⟩ := cp46
  have hin46 : ¬ ((1 : Int32) < 0 ∨ cl46.slots.size ≤ ((1 : Int32)).toNatClampNeg) := inb_of S46 ⟨by decide, by decide⟩
  obtain ⟨T46, h46, X46, e46, W46, st46⟩ := stB X43 hx hZ e43 Ar46 (j := (1 : Int32)) hin46 (g := (mkF m 41 #[.val (.ref b), .val (.int c)] [(.int (c.toInt8.toInt32)), (.int (1 : Int32)), (.ref tb)])) rfl rfl (hb hby (od dB31 23 rfl))
  have V46 : Arv Z h46 tb kt .byte (16 : Int32) [(.int (StrChars.lo8 d0)), (.int (nar .byte (c.toInt8.toInt32))), (.int (0 : Int32)), (.int (0 : Int32)), (.int (0 : Int32)), (.int (0 : Int32)), (.int (0 : Int32)), (.int (0 : Int32)), (.int (0 : Int32)), (.int (0 : Int32)), (.int (0 : Int32)), (.int (0 : Int32)), (.int (0 : Int32)), (.int (0 : Int32)), (.int (0 : Int32)), (.int (0 : Int32))] (.int 0) := Arv.set Ar46 q46 S46 G46 H46 F46 (fits_nar_byte _) W46 1 rfl (Nat.le_of_ble_eq_true rfl)
  have N46 := Fr.snoc X46 N43 gt
  have y47 := (((Keep.refl h0 [b, tb]).wr W43 (Or.inl (List.mem_of_getElem? (i := 0) rfl))).wr W46 (Or.inl (List.mem_of_getElem? (i := 1) rfl)))
  refine own_on st46 ?_
  show own_Fin p e below _ (T46.setTop (mkF m 42 #[.val (.ref b), .val (.int c)] []))
  refine o_go X46 H (od dB31 24 rfl) (pc' := 75) (by decide) (by decide) ?_
  refine o_aldN X46 H (od dB31 41 rfl) rfl rfl ?_
  exact own_ret (t := (.object "java/lang/AbstractStringBuilder")) X46 hx hlk hret rfl (Or.inr (Or.inr (Or.inr (Or.inr ⟨rfl, rfl, rfl⟩)))) (hb hby (od dB31 42 rfl)) (by show QPa1 Z b c z tb kt d0 h0 n0 _ T46.heap _; rw [e46]; exact ⟨rfl, N46, y47, ((Eb.wr W43).wr W46), (y44.other W46 (Or.inl nbt)), ((Fc.same W43).other W46 (Or.inl nbt)), (y45.other W46 (Or.inl nbt)), (by have q := V46; rw [own_narb] at q; exact q)⟩) (by decide) (by decide)
theorem ef_rmPa2 (m : MethodId) (x0 : Addr) (x1 : Int32) : entryFrame m #[(.ref x0), (.int x1)] 2 = mkF m 0 #[.val (.ref x0), .val (.int x1)] [] := by first | (simp [entryFrame, mkF, argsToLocals, Value.category]; done) | rfl
def QPa2 (Z : State) (b : Addr) (c : Int32) (z : Int32) (tb : Addr) (kt : ClassId) (d0 : Int32) (d1 : Int32) (h0 : Heap) (n0 : Nat) (v : Option Value) (h : Heap) (L : List Loc) : Prop := v = some (.ref b) ∧ Fr n0 L ∧ Keep h0 h [b, tb] ∧ Exa Z h b "java/lang/StringBuilder" ∧ Fld Z h b "java/lang/AbstractStringBuilder" "value" "[B" (.ref tb) ∧ Fld Z h b "java/lang/AbstractStringBuilder" "count" "I" (.int (3 : Int32)) ∧ Fld Z h b "java/lang/AbstractStringBuilder" "coder" "B" (.int (0 : Int32)) ∧ Arv Z h tb kt .byte (16 : Int32) [(.int (StrChars.lo8 d0)), (.int (StrChars.lo8 d1)), (.int (StrChars.lo8 c)), (.int (0 : Int32)), (.int (0 : Int32)), (.int (0 : Int32)), (.int (0 : Int32)), (.int (0 : Int32)), (.int (0 : Int32)), (.int (0 : Int32)), (.int (0 : Int32)), (.int (0 : Int32)), (.int (0 : Int32)), (.int (0 : Int32)), (.int (0 : Int32)), (.int (0 : Int32))] (.int 0)
set_option maxRecDepth 65536 in
set_option maxHeartbeats 40000000 in
theorem rmPa2 (l : Launch) (Z : State) (a0 : Array Value) (hw : ∀ d ∈ tables_1, d.before a0 Z = true) (ws : List Jvm.Cond) (b : Addr) (c : Int32) (z : Int32) (tb : Addr) (kt : ClassId) (d0 : Int32) (d1 : Int32) (h0 : Heap) (n0 : Nat) (Z0 : n0 ≤ h0.size) (hz : ¬ z = (0 : Int32)) (O : Old Z n0 h0) (SC : Sta Z Z.heap "java/lang/String" "COMPACT_STRINGS" "Z" (.int z)) (Eb : Exa Z h0 b "java/lang/StringBuilder") (Fv : Fld Z h0 b "java/lang/AbstractStringBuilder" "value" "[B" (.ref tb)) (Fc : Fld Z h0 b "java/lang/AbstractStringBuilder" "count" "I" (.int (2 : Int32))) (Fk : Fld Z h0 b "java/lang/AbstractStringBuilder" "coder" "B" (.int (0 : Int32))) (At : Arv Z h0 tb kt .byte (16 : Int32) [(.int (StrChars.lo8 d0)), (.int (StrChars.lo8 d1)), (.int (0 : Int32)), (.int (0 : Int32)), (.int (0 : Int32)), (.int (0 : Int32)), (.int (0 : Int32)), (.int (0 : Int32)), (.int (0 : Int32)), (.int (0 : Int32)), (.int (0 : Int32)), (.int (0 : Int32)), (.int (0 : Int32)), (.int (0 : Int32)), (.int (0 : Int32)), (.int (0 : Int32))] (.int 0)) (gb : n0 ≤ b) (gt : n0 ≤ tb) (nbt : b ≠ tb) (rc : ¬ c < 0 ∧ ¬ (255 : Int32) < c) :
    own_M l (⟨"java/lang/AbstractStringBuilder", "append", "(C)Ljava/lang/AbstractStringBuilder;"⟩ : MethodName) jdk_68_method_31_code 2 (some (.object "java/lang/AbstractStringBuilder")) ws ({ frames := 1, cells := 0, slots := 0, locals := 14 } : Room) #[(.ref b), (.int c)] Z h0 (QPa2 Z b c z tb kt d0 d1 h0 n0) := by
  refine MetFree.of_bodySF (plainFor_of_name pn_0) hisR ?_
  intro p e s m args below meth cd s₁ Bd hml hP hK
  obtain ⟨rfl, hZ, hh⟩ := hP
  obtain ⟨X0, e0, H, hlk, hown, hret⟩ := own_start (R := ({ frames := 1, cells := 0, slots := 0, locals := 14 } : Room)) Bd hh rfl
  have hx := H.1; have hby := H.2; have N0 := Fr.nil n0
  show own_Fin p e below (own_Ans s (QPa2 Z b c z tb kt d0 d1 h0 n0) ({ frames := 1, cells := 0, slots := 0, locals := 14 } : Room).cells ({ frames := 1, cells := 0, slots := 0, locals := 14 } : Room).slots) (s₁.setTop (entryFrame m #[(.ref b), (.int c)] 2))
  refine own_cast (ef_rmPa2 m b c) ?_
  show own_Fin p e below _ (s₁.setTop (mkF m 0 #[.val (.ref b), .val (.int c)] []))
  refine o_aldN X0 H (od dB31 0 rfl) rfl rfl ?_
  refine o_aldN X0 H (od dB31 1 rfl) rfl rfl ?_
  refine o_gf X0 H hZ hown (ow hw 114 rfl) Via.refl e0 Fc (od dB31 2 rfl) fun T48 X48 e48 => ?_
  refine o_ic X48 H (od dB31 3 rfl) (v := 1) rfl ?_
  refine own_on (fun tq => XS.iadd X48.here hx rfl (hb hby (od dB31 4 rfl)) rfl) ?_
  show own_Fin p e below _ (T48.setTop (mkF m 7 #[.val (.ref b), .val (.int c)] [(.int (3 : Int32)), (.ref b)]))
  refine o_pc (argsL := [(.int (3 : Int32))]) (rest := []) X48 H hml hZ hown (ow hw 152 rfl) (ow hw 153 rfl) (own_selfsel (mvT hZ (ow hw 155 rfl)) (Cond.privateMethod_at (mvP hZ (ow hw 154 rfl) (args := #[]))) (mvT hZ (ow hw 153 rfl)) (by decide)) (ow hw 154 rfl) (ow hw 156 rfl) (backOf (W := 0) (rmEn2 l Z a0 hw [] b tb kt _ h0 n0 (by exact Z0) Fv Fk At) hZ (ow hw 156 rfl) (ow hw 80 rfl) (by decide) (by decide)) (by decide) Eb e48 pd_0 (od dB31 5 rfl) rfl rfl rfl rfl rfl (by decide) (by decide) (o_pv (fun _ _ _ q => q) N0 fun T49 Lc49 X49 N49 e49 => ?_)
  refine o_aldN X49 H (od dB31 6 rfl) rfl rfl ?_
  refine o_vs (argsL := []) (rest := []) X49 H hml hZ hown (ow hw 157 rfl) (ow hw 117 rfl) (ow hw 119 rfl) (ow hw 118 rfl) (backOf (W := 0) (rm24 l Z a0 hw [] b z h0 n0 (by exact Z0) hz O SC Fk) hZ (ow hw 120 rfl) (ow hw 80 rfl) (by decide) (by decide)) (by decide) Eb e49 pd_2 (od dB31 7 rfl) rfl rfl rfl rfl rfl (by decide) (by decide) (o_pk (fun _ _ _ q => q) N49 fun T50 Lc50 X50 N50 e50 => ?_)
  refine o_ifN X50 H (od dB31 8 rfl) ((if0 _ _).trans (feq (by decide : ¬ ((1 : Int32) = (0 : Int32)))).1) ?_
  refine o_ildN X50 H (od dB31 9 rfl) rfl ?_
  refine o_tc (argsL := [(.int c)]) (rest := []) X50 H hml hZ hown (ow hw 158 rfl) (ow hw 159 rfl) (ow hw 60 rfl) (ow hw 160 rfl) (backOf (W := 0) (rm33 l Z a0 hw [] c h0 n0 (by exact Z0) rc) hZ (ow hw 160 rfl) (ow hw 60 rfl) (by decide) (by decide)) (by decide) e50 pd_3 (od dB31 10 rfl) rfl rfl rfl rfl rfl (by decide) (by decide) (o_pk (fun _ _ _ q => q) N50 fun T51 Lc51 X51 N51 e51 => ?_)
  refine o_ifN X51 H (od dB31 11 rfl) ((if0 _ _).trans (feq (by decide : ¬ ((1 : Int32) = (0 : Int32)))).1) ?_
  refine o_aldN X51 H (od dB31 12 rfl) rfl rfl ?_
  refine o_gf X51 H hZ hown (ow hw 84 rfl) Via.refl e51 Fv (od dB31 13 rfl) fun T52 X52 e52 => ?_
  refine o_aldN X52 H (od dB31 14 rfl) rfl rfl ?_
  refine o_dup X52 H (od dB31 15 rfl) rfl ?_
  refine o_gf X52 H hZ hown (ow hw 114 rfl) Via.refl e52 Fc (od dB31 16 rfl) fun T53 X53 e53 => ?_
  refine own_on (fun tq => XS.dupX1 X53.here hx rfl (hb hby (od dB31 17 rfl)) rfl rfl rfl) ?_
  show own_Fin p e below _ (T53.setTop (mkF m 34 #[.val (.ref b), .val (.int c)] [(.int (2 : Int32)), (.ref b), (.int (2 : Int32)), (.ref tb)]))
  refine o_ic X53 H (od dB31 18 rfl) (v := 1) rfl ?_
  refine own_on (fun tq => XS.iadd X53.here hx rfl (hb hby (od dB31 19 rfl)) rfl) ?_
  show own_Fin p e below _ (T53.setTop (mkF m 36 #[.val (.ref b), .val (.int c)] [(.int (3 : Int32)), (.ref b), (.int (2 : Int32)), (.ref tb)]))
  obtain ⟨T54, h54, X54, e54, W54, st54⟩ := putF X53 hx hZ hown (host := "") (Or.inl (ow hw 114 rfl)) Via.refl e53 Fc Eb (Or.inl (ow hw 115 rfl)) (ow hw 71 rfl) (ty := .int) (by decide) rfl rfl (g := (mkF m 36 #[.val (.ref b), .val (.int c)] [(.int (3 : Int32)), (.ref b), (.int (2 : Int32)), (.ref tb)])) rfl rfl (hb hby (od dB31 20 rfl))
  have N54 := Fr.snoc X54 N51 gb
  have y55 := (Fv.other W54 (Or.inr (slot_ne (Or.inl (ow hw 85 rfl)) (Or.inl (ow hw 115 rfl)) (by decide) (t := (.array .byte)) (t' := .int) (by decide) (by decide))))
  have y56 := (Fk.other W54 (Or.inr (slot_ne (Or.inl (ow hw 87 rfl)) (Or.inl (ow hw 115 rfl)) (by decide) (t := .byte) (t' := .int) (by decide) (by decide))))
  refine own_on st54 ?_
  show own_Fin p e below _ (T54.setTop (mkF m 39 #[.val (.ref b), .val (.int c)] [(.int (2 : Int32)), (.ref tb)]))
  refine o_ildN X54 H (od dB31 21 rfl) rfl ?_
  refine own_on (fun tq => XS.i2b X54.here hx rfl (hb hby (od dB31 22 rfl)) rfl) ?_
  show own_Fin p e below _ (T54.setTop (mkF m 41 #[.val (.ref b), .val (.int c)] [(.int (c.toInt8.toInt32)), (.int (2 : Int32)), (.ref tb)]))
  have cp57 := (At.other W54 (Ne.symm nbt))
  obtain ⟨cl57, Ar57, q57, S57, G57, H57, F57⟩ := cp57
  have hin57 : ¬ ((2 : Int32) < 0 ∨ cl57.slots.size ≤ ((2 : Int32)).toNatClampNeg) := inb_of S57 ⟨by decide, by decide⟩
  obtain ⟨T57, h57, X57, e57, W57, st57⟩ := stB X54 hx hZ e54 Ar57 (j := (2 : Int32)) hin57 (g := (mkF m 41 #[.val (.ref b), .val (.int c)] [(.int (c.toInt8.toInt32)), (.int (2 : Int32)), (.ref tb)])) rfl rfl (hb hby (od dB31 23 rfl))
  have V57 : Arv Z h57 tb kt .byte (16 : Int32) [(.int (StrChars.lo8 d0)), (.int (StrChars.lo8 d1)), (.int (nar .byte (c.toInt8.toInt32))), (.int (0 : Int32)), (.int (0 : Int32)), (.int (0 : Int32)), (.int (0 : Int32)), (.int (0 : Int32)), (.int (0 : Int32)), (.int (0 : Int32)), (.int (0 : Int32)), (.int (0 : Int32)), (.int (0 : Int32)), (.int (0 : Int32)), (.int (0 : Int32)), (.int (0 : Int32))] (.int 0) := Arv.set Ar57 q57 S57 G57 H57 F57 (fits_nar_byte _) W57 2 rfl (Nat.le_of_ble_eq_true rfl)
  have N57 := Fr.snoc X57 N54 gt
  have y58 := (((Keep.refl h0 [b, tb]).wr W54 (Or.inl (List.mem_of_getElem? (i := 0) rfl))).wr W57 (Or.inl (List.mem_of_getElem? (i := 1) rfl)))
  refine own_on st57 ?_
  show own_Fin p e below _ (T57.setTop (mkF m 42 #[.val (.ref b), .val (.int c)] []))
  refine o_go X57 H (od dB31 24 rfl) (pc' := 75) (by decide) (by decide) ?_
  refine o_aldN X57 H (od dB31 41 rfl) rfl rfl ?_
  exact own_ret (t := (.object "java/lang/AbstractStringBuilder")) X57 hx hlk hret rfl (Or.inr (Or.inr (Or.inr (Or.inr ⟨rfl, rfl, rfl⟩)))) (hb hby (od dB31 42 rfl)) (by show QPa2 Z b c z tb kt d0 d1 h0 n0 _ T57.heap _; rw [e57]; exact ⟨rfl, N57, y58, ((Eb.wr W54).wr W57), (y55.other W57 (Or.inl nbt)), ((Fc.same W54).other W57 (Or.inl nbt)), (y56.other W57 (Or.inl nbt)), (by have q := V57; rw [own_narb] at q; exact q)⟩) (by decide) (by decide)
theorem dB30 : oL jdk_67_method_14_code [(0, .aload_n 0, 1), (1, .iload_n 1, 1), (2, .invokespecial 50, 3), (5, .pop, 1), (6, .aload_n 0, 1), (7, .areturn, 1)] := by unfold oL; decide +kernel
theorem pd_4 : parseMethodDescriptor "(C)Ljava/lang/AbstractStringBuilder;" = some ⟨[.char], some (.object "java/lang/AbstractStringBuilder")⟩ := by decide +kernel
theorem ef_rmPb0 (m : MethodId) (x0 : Addr) (x1 : Int32) : entryFrame m #[(.ref x0), (.int x1)] 2 = mkF m 0 #[.val (.ref x0), .val (.int x1)] [] := by first | (simp [entryFrame, mkF, argsToLocals, Value.category]; done) | rfl
def QPb0 (Z : State) (b : Addr) (c : Int32) (z : Int32) (tb : Addr) (kt : ClassId) (h0 : Heap) (n0 : Nat) (v : Option Value) (h : Heap) (L : List Loc) : Prop := v = some (.ref b) ∧ Fr n0 L ∧ Keep h0 h [b, tb] ∧ Exa Z h b "java/lang/StringBuilder" ∧ Fld Z h b "java/lang/AbstractStringBuilder" "value" "[B" (.ref tb) ∧ Fld Z h b "java/lang/AbstractStringBuilder" "count" "I" (.int (1 : Int32)) ∧ Fld Z h b "java/lang/AbstractStringBuilder" "coder" "B" (.int (0 : Int32)) ∧ Arv Z h tb kt .byte (16 : Int32) [(.int (StrChars.lo8 c)), (.int (0 : Int32)), (.int (0 : Int32)), (.int (0 : Int32)), (.int (0 : Int32)), (.int (0 : Int32)), (.int (0 : Int32)), (.int (0 : Int32)), (.int (0 : Int32)), (.int (0 : Int32)), (.int (0 : Int32)), (.int (0 : Int32)), (.int (0 : Int32)), (.int (0 : Int32)), (.int (0 : Int32)), (.int (0 : Int32))] (.int 0)
set_option maxRecDepth 65536 in
set_option maxHeartbeats 40000000 in
theorem rmPb0 (l : Launch) (Z : State) (a0 : Array Value) (hw : ∀ d ∈ tables_1, d.before a0 Z = true) (ws : List Jvm.Cond) (b : Addr) (c : Int32) (z : Int32) (tb : Addr) (kt : ClassId) (h0 : Heap) (n0 : Nat) (Z0 : n0 ≤ h0.size) (hz : ¬ z = (0 : Int32)) (O : Old Z n0 h0) (SC : Sta Z Z.heap "java/lang/String" "COMPACT_STRINGS" "Z" (.int z)) (Eb : Exa Z h0 b "java/lang/StringBuilder") (Fv : Fld Z h0 b "java/lang/AbstractStringBuilder" "value" "[B" (.ref tb)) (Fc : Fld Z h0 b "java/lang/AbstractStringBuilder" "count" "I" (.int (0 : Int32))) (Fk : Fld Z h0 b "java/lang/AbstractStringBuilder" "coder" "B" (.int (0 : Int32))) (At : Arv Z h0 tb kt .byte (16 : Int32) [(.int (0 : Int32)), (.int (0 : Int32)), (.int (0 : Int32)), (.int (0 : Int32)), (.int (0 : Int32)), (.int (0 : Int32)), (.int (0 : Int32)), (.int (0 : Int32)), (.int (0 : Int32)), (.int (0 : Int32)), (.int (0 : Int32)), (.int (0 : Int32)), (.int (0 : Int32)), (.int (0 : Int32)), (.int (0 : Int32)), (.int (0 : Int32))] (.int 0)) (gb : n0 ≤ b) (gt : n0 ≤ tb) (nbt : b ≠ tb) (rc : ¬ c < 0 ∧ ¬ (255 : Int32) < c) :
    own_M l (⟨"java/lang/StringBuilder", "append", "(C)Ljava/lang/StringBuilder;"⟩ : MethodName) jdk_67_method_14_code 2 (some (.object "java/lang/StringBuilder")) ws ({ frames := 2, cells := 0, slots := 0, locals := 27 } : Room) #[(.ref b), (.int c)] Z h0 (QPb0 Z b c z tb kt h0 n0) := by
  refine MetFree.of_bodySF (plainFor_of_name pn_1) hisR ?_
  intro p e s m args below meth cd s₁ Bd hml hP hK
  obtain ⟨rfl, hZ, hh⟩ := hP
  obtain ⟨X0, e0, H, hlk, hown, hret⟩ := own_start (R := ({ frames := 2, cells := 0, slots := 0, locals := 27 } : Room)) Bd hh rfl
  have hx := H.1; have hby := H.2; have N0 := Fr.nil n0
  show own_Fin p e below (own_Ans s (QPb0 Z b c z tb kt h0 n0) ({ frames := 2, cells := 0, slots := 0, locals := 27 } : Room).cells ({ frames := 2, cells := 0, slots := 0, locals := 27 } : Room).slots) (s₁.setTop (entryFrame m #[(.ref b), (.int c)] 2))
  refine own_cast (ef_rmPb0 m b c) ?_
  show own_Fin p e below _ (s₁.setTop (mkF m 0 #[.val (.ref b), .val (.int c)] []))
  refine o_aldN X0 H (od dB30 0 rfl) rfl rfl ?_
  refine o_ildN X0 H (od dB30 1 rfl) rfl ?_
  refine o_bk (superBack X0 hx hZ (y := (⟨"java/lang/AbstractStringBuilder", "append", "(C)Ljava/lang/AbstractStringBuilder;"⟩ : MethodName)) hown (ow hw 148 rfl) (own_same (ow hw 150 rfl) (ow hw 103 rfl) rfl (by decide)) (ow hw 149 rfl) (ow hw 112 rfl) (by decide) (backOf (W := 0) (rmPa0 l Z a0 hw [] b c z tb kt h0 n0 (by exact Z0) hz O SC Eb Fv Fc Fk At gb gt nbt rc) hZ (ow hw 151 rfl) (ow hw 80 rfl) (by decide) (by decide)) e0 (Ins.self Eb) rfl (by exact hml.symm) (ow hw 151 rfl) (argsL := [(.int c)]) (rest := []) (lenOf pd_4 rfl) rfl (o_mr rfl) (hb hby (od dB30 2 rfl)) (fun _ _ => ⟨rfl, e0, (by decide : 0 + 0 ≤ _), (by decide : 0 + 0 ≤ _)⟩)) fun _ T59 Lc59 X59 hQ59 => ?_
  obtain ⟨rfl, N59q, K59, Eq59, Vq59, Cq59, Dq59, Aq59⟩ := hQ59
  have N59 := Fr.app N0 N59q
  have y60 := ((Keep.refl h0 [b, tb]).trans K59 (allS (Or.inl (List.mem_of_getElem? (i := 0) rfl)) (allS (Or.inl (List.mem_of_getElem? (i := 1) rfl)) all0)))
  show own_Fin p e below _ (T59.setTop (mkF m 5 #[.val (.ref b), .val (.int c)] [(.ref b)]))
  refine o_pop X59 H (od dB30 3 rfl) rfl ?_
  refine o_aldN X59 H (od dB30 4 rfl) rfl rfl ?_
  exact own_ret (t := (.object "java/lang/StringBuilder")) X59 hx hlk hret rfl (Or.inr (Or.inr (Or.inr (Or.inr ⟨rfl, rfl, rfl⟩)))) (hb hby (od dB30 5 rfl)) (by show QPb0 Z b c z tb kt h0 n0 _ T59.heap _; exact ⟨rfl, N59, y60, Eq59, Vq59, Cq59, Dq59, Aq59⟩) (by decide) (by decide)
theorem ef_rmPb1 (m : MethodId) (x0 : Addr) (x1 : Int32) : entryFrame m #[(.ref x0), (.int x1)] 2 = mkF m 0 #[.val (.ref x0), .val (.int x1)] [] := by first | (simp [entryFrame, mkF, argsToLocals, Value.category]; done) | rfl
def QPb1 (Z : State) (b : Addr) (c : Int32) (z : Int32) (tb : Addr) (kt : ClassId) (d0 : Int32) (h0 : Heap) (n0 : Nat) (v : Option Value) (h : Heap) (L : List Loc) : Prop := v = some (.ref b) ∧ Fr n0 L ∧ Keep h0 h [b, tb] ∧ Exa Z h b "java/lang/StringBuilder" ∧ Fld Z h b "java/lang/AbstractStringBuilder" "value" "[B" (.ref tb) ∧ Fld Z h b "java/lang/AbstractStringBuilder" "count" "I" (.int (2 : Int32)) ∧ Fld Z h b "java/lang/AbstractStringBuilder" "coder" "B" (.int (0 : Int32)) ∧ Arv Z h tb kt .byte (16 : Int32) [(.int (StrChars.lo8 d0)), (.int (StrChars.lo8 c)), (.int (0 : Int32)), (.int (0 : Int32)), (.int (0 : Int32)), (.int (0 : Int32)), (.int (0 : Int32)), (.int (0 : Int32)), (.int (0 : Int32)), (.int (0 : Int32)), (.int (0 : Int32)), (.int (0 : Int32)), (.int (0 : Int32)), (.int (0 : Int32)), (.int (0 : Int32)), (.int (0 : Int32))] (.int 0)
set_option maxRecDepth 65536 in
set_option maxHeartbeats 40000000 in
theorem rmPb1 (l : Launch) (Z : State) (a0 : Array Value) (hw : ∀ d ∈ tables_1, d.before a0 Z = true) (ws : List Jvm.Cond) (b : Addr) (c : Int32) (z : Int32) (tb : Addr) (kt : ClassId) (d0 : Int32) (h0 : Heap) (n0 : Nat) (Z0 : n0 ≤ h0.size) (hz : ¬ z = (0 : Int32)) (O : Old Z n0 h0) (SC : Sta Z Z.heap "java/lang/String" "COMPACT_STRINGS" "Z" (.int z)) (Eb : Exa Z h0 b "java/lang/StringBuilder") (Fv : Fld Z h0 b "java/lang/AbstractStringBuilder" "value" "[B" (.ref tb)) (Fc : Fld Z h0 b "java/lang/AbstractStringBuilder" "count" "I" (.int (1 : Int32))) (Fk : Fld Z h0 b "java/lang/AbstractStringBuilder" "coder" "B" (.int (0 : Int32))) (At : Arv Z h0 tb kt .byte (16 : Int32) [(.int (StrChars.lo8 d0)), (.int (0 : Int32)), (.int (0 : Int32)), (.int (0 : Int32)), (.int (0 : Int32)), (.int (0 : Int32)), (.int (0 : Int32)), (.int (0 : Int32)), (.int (0 : Int32)), (.int (0 : Int32)), (.int (0 : Int32)), (.int (0 : Int32)), (.int (0 : Int32)), (.int (0 : Int32)), (.int (0 : Int32)), (.int (0 : Int32))] (.int 0)) (gb : n0 ≤ b) (gt : n0 ≤ tb) (nbt : b ≠ tb) (rc : ¬ c < 0 ∧ ¬ (255 : Int32) < c) :
    own_M l (⟨"java/lang/StringBuilder", "append", "(C)Ljava/lang/StringBuilder;"⟩ : MethodName) jdk_67_method_14_code 2 (some (.object "java/lang/StringBuilder")) ws ({ frames := 2, cells := 0, slots := 0, locals := 27 } : Room) #[(.ref b), (.int c)] Z h0 (QPb1 Z b c z tb kt d0 h0 n0) := by
  refine MetFree.of_bodySF (plainFor_of_name pn_1) hisR ?_
  intro p e s m args below meth cd s₁ Bd hml hP hK
  obtain ⟨rfl, hZ, hh⟩ := hP
  obtain ⟨X0, e0, H, hlk, hown, hret⟩ := own_start (R := ({ frames := 2, cells := 0, slots := 0, locals := 27 } : Room)) Bd hh rfl
  have hx := H.1; have hby := H.2; have N0 := Fr.nil n0
  show own_Fin p e below (own_Ans s (QPb1 Z b c z tb kt d0 h0 n0) ({ frames := 2, cells := 0, slots := 0, locals := 27 } : Room).cells ({ frames := 2, cells := 0, slots := 0, locals := 27 } : Room).slots) (s₁.setTop (entryFrame m #[(.ref b), (.int c)] 2))
  refine own_cast (ef_rmPb1 m b c) ?_
  show own_Fin p e below _ (s₁.setTop (mkF m 0 #[.val (.ref b), .val (.int c)] []))
  refine o_aldN X0 H (od dB30 0 rfl) rfl rfl ?_
  refine o_ildN X0 H (od dB30 1 rfl) rfl ?_
  refine o_bk (superBack X0 hx hZ (y := (⟨"java/lang/AbstractStringBuilder", "append", "(C)Ljava/lang/AbstractStringBuilder;"⟩ : MethodName)) hown (ow hw 148 rfl) (own_same (ow hw 150 rfl) (ow hw 103 rfl) rfl (by decide)) (ow hw 149 rfl) (ow hw 112 rfl) (by decide) (backOf (W := 0) (rmPa1 l Z a0 hw [] b c z tb kt d0 h0 n0 (by exact Z0) hz O SC Eb Fv Fc Fk At gb gt nbt rc) hZ (ow hw 151 rfl) (ow hw 80 rfl) (by decide) (by decide)) e0 (Ins.self Eb) rfl (by exact hml.symm) (ow hw 151 rfl) (argsL := [(.int c)]) (rest := []) (lenOf pd_4 rfl) rfl (o_mr rfl) (hb hby (od dB30 2 rfl)) (fun _ _ => ⟨rfl, e0, (by decide : 0 + 0 ≤ _), (by decide : 0 + 0 ≤ _)⟩)) fun _ T61 Lc61 X61 hQ61 => ?_
  obtain ⟨rfl, N61q, K61, Eq61, Vq61, Cq61, Dq61, Aq61⟩ := hQ61
  have N61 := Fr.app N0 N61q
  have y62 := ((Keep.refl h0 [b, tb]).trans K61 (allS (Or.inl (List.mem_of_getElem? (i := 0) rfl)) (allS (Or.inl (List.mem_of_getElem? (i := 1) rfl)) all0)))
  show own_Fin p e below _ (T61.setTop (mkF m 5 #[.val (.ref b), .val (.int c)] [(.ref b)]))
  refine o_pop X61 H (od dB30 3 rfl) rfl ?_
  refine o_aldN X61 H (od dB30 4 rfl) rfl rfl ?_
  exact own_ret (t := (.object "java/lang/StringBuilder")) X61 hx hlk hret rfl (Or.inr (Or.inr (Or.inr (Or.inr ⟨rfl, rfl, rfl⟩)))) (hb hby (od dB30 5 rfl)) (by show QPb1 Z b c z tb kt d0 h0 n0 _ T61.heap _; exact ⟨rfl, N61, y62, Eq61, Vq61, Cq61, Dq61, Aq61⟩) (by decide) (by decide)
theorem ef_rmPb2 (m : MethodId) (x0 : Addr) (x1 : Int32) : entryFrame m #[(.ref x0), (.int x1)] 2 = mkF m 0 #[.val (.ref x0), .val (.int x1)] [] := by first | (simp [entryFrame, mkF, argsToLocals, Value.category]; done) | rfl
def QPb2 (Z : State) (b : Addr) (c : Int32) (z : Int32) (tb : Addr) (kt : ClassId) (d0 : Int32) (d1 : Int32) (h0 : Heap) (n0 : Nat) (v : Option Value) (h : Heap) (L : List Loc) : Prop := v = some (.ref b) ∧ Fr n0 L ∧ Keep h0 h [b, tb] ∧ Exa Z h b "java/lang/StringBuilder" ∧ Fld Z h b "java/lang/AbstractStringBuilder" "value" "[B" (.ref tb) ∧ Fld Z h b "java/lang/AbstractStringBuilder" "count" "I" (.int (3 : Int32)) ∧ Fld Z h b "java/lang/AbstractStringBuilder" "coder" "B" (.int (0 : Int32)) ∧ Arv Z h tb kt .byte (16 : Int32) [(.int (StrChars.lo8 d0)), (.int (StrChars.lo8 d1)), (.int (StrChars.lo8 c)), (.int (0 : Int32)), (.int (0 : Int32)), (.int (0 : Int32)), (.int (0 : Int32)), (.int (0 : Int32)), (.int (0 : Int32)), (.int (0 : Int32)), (.int (0 : Int32)), (.int (0 : Int32)), (.int (0 : Int32)), (.int (0 : Int32)), (.int (0 : Int32)), (.int (0 : Int32))] (.int 0)
set_option maxRecDepth 65536 in
set_option maxHeartbeats 40000000 in
theorem rmPb2 (l : Launch) (Z : State) (a0 : Array Value) (hw : ∀ d ∈ tables_1, d.before a0 Z = true) (ws : List Jvm.Cond) (b : Addr) (c : Int32) (z : Int32) (tb : Addr) (kt : ClassId) (d0 : Int32) (d1 : Int32) (h0 : Heap) (n0 : Nat) (Z0 : n0 ≤ h0.size) (hz : ¬ z = (0 : Int32)) (O : Old Z n0 h0) (SC : Sta Z Z.heap "java/lang/String" "COMPACT_STRINGS" "Z" (.int z)) (Eb : Exa Z h0 b "java/lang/StringBuilder") (Fv : Fld Z h0 b "java/lang/AbstractStringBuilder" "value" "[B" (.ref tb)) (Fc : Fld Z h0 b "java/lang/AbstractStringBuilder" "count" "I" (.int (2 : Int32))) (Fk : Fld Z h0 b "java/lang/AbstractStringBuilder" "coder" "B" (.int (0 : Int32))) (At : Arv Z h0 tb kt .byte (16 : Int32) [(.int (StrChars.lo8 d0)), (.int (StrChars.lo8 d1)), (.int (0 : Int32)), (.int (0 : Int32)), (.int (0 : Int32)), (.int (0 : Int32)), (.int (0 : Int32)), (.int (0 : Int32)), (.int (0 : Int32)), (.int (0 : Int32)), (.int (0 : Int32)), (.int (0 : Int32)), (.int (0 : Int32)), (.int (0 : Int32)), (.int (0 : Int32)), (.int (0 : Int32))] (.int 0)) (gb : n0 ≤ b) (gt : n0 ≤ tb) (nbt : b ≠ tb) (rc : ¬ c < 0 ∧ ¬ (255 : Int32) < c) :
    own_M l (⟨"java/lang/StringBuilder", "append", "(C)Ljava/lang/StringBuilder;"⟩ : MethodName) jdk_67_method_14_code 2 (some (.object "java/lang/StringBuilder")) ws ({ frames := 2, cells := 0, slots := 0, locals := 27 } : Room) #[(.ref b), (.int c)] Z h0 (QPb2 Z b c z tb kt d0 d1 h0 n0) := by
  refine MetFree.of_bodySF (plainFor_of_name pn_1) hisR ?_
  intro p e s m args below meth cd s₁ Bd hml hP hK
  obtain ⟨rfl, hZ, hh⟩ := hP
  obtain ⟨X0, e0, H, hlk, hown, hret⟩ := own_start (R := ({ frames := 2, cells := 0, slots := 0, locals := 27 } : Room)) Bd hh rfl
  have hx := H.1; have hby := H.2; have N0 := Fr.nil n0
  show own_Fin p e below (own_Ans s (QPb2 Z b c z tb kt d0 d1 h0 n0) ({ frames := 2, cells := 0, slots := 0, locals := 27 } : Room).cells ({ frames := 2, cells := 0, slots := 0, locals := 27 } : Room).slots) (s₁.setTop (entryFrame m #[(.ref b), (.int c)] 2))
  refine own_cast (ef_rmPb2 m b c) ?_
  show own_Fin p e below _ (s₁.setTop (mkF m 0 #[.val (.ref b), .val (.int c)] []))
  refine o_aldN X0 H (od dB30 0 rfl) rfl rfl ?_
  refine o_ildN X0 H (od dB30 1 rfl) rfl ?_
  refine o_bk (superBack X0 hx hZ (y := (⟨"java/lang/AbstractStringBuilder", "append", "(C)Ljava/lang/AbstractStringBuilder;"⟩ : MethodName)) hown (ow hw 148 rfl) (own_same (ow hw 150 rfl) (ow hw 103 rfl) rfl (by decide)) (ow hw 149 rfl) (ow hw 112 rfl) (by decide) (backOf (W := 0) (rmPa2 l Z a0 hw [] b c z tb kt d0 d1 h0 n0 (by exact Z0) hz O SC Eb Fv Fc Fk At gb gt nbt rc) hZ (ow hw 151 rfl) (ow hw 80 rfl) (by decide) (by decide)) e0 (Ins.self Eb) rfl (by exact hml.symm) (ow hw 151 rfl) (argsL := [(.int c)]) (rest := []) (lenOf pd_4 rfl) rfl (o_mr rfl) (hb hby (od dB30 2 rfl)) (fun _ _ => ⟨rfl, e0, (by decide : 0 + 0 ≤ _), (by decide : 0 + 0 ≤ _)⟩)) fun _ T63 Lc63 X63 hQ63 => ?_
  obtain ⟨rfl, N63q, K63, Eq63, Vq63, Cq63, Dq63, Aq63⟩ := hQ63
  have N63 := Fr.app N0 N63q
  have y64 := ((Keep.refl h0 [b, tb]).trans K63 (allS (Or.inl (List.mem_of_getElem? (i := 0) rfl)) (allS (Or.inl (List.mem_of_getElem? (i := 1) rfl)) all0)))
  show own_Fin p e below _ (T63.setTop (mkF m 5 #[.val (.ref b), .val (.int c)] [(.ref b)]))
  refine o_pop X63 H (od dB30 3 rfl) rfl ?_
  refine o_aldN X63 H (od dB30 4 rfl) rfl rfl ?_
  exact own_ret (t := (.object "java/lang/StringBuilder")) X63 hx hlk hret rfl (Or.inr (Or.inr (Or.inr (Or.inr ⟨rfl, rfl, rfl⟩)))) (hb hby (od dB30 5 rfl)) (by show QPb2 Z b c z tb kt d0 d1 h0 n0 _ T63.heap _; exact ⟨rfl, N63, y64, Eq63, Vq63, Cq63, Dq63, Aq63⟩) (by decide) (by decide)
theorem dB28 : oL jdk_29_method_69_code [(0, .iload_n 0, 1), (1, .iload_n 1, 1), (2, .if_icmp .gt 7, 3), (5, .iload_n 0, 1), (6, .goto 4, 3), (9, .iload_n 1, 1), (10, .ireturn, 1)] := by unfold oL; decide +kernel
theorem ef_rmMn0 (m : MethodId) (x0 : Int32) (x1 : Int32) : entryFrame m #[(.int x0), (.int x1)] 2 = mkF m 0 #[.val (.int x0), .val (.int x1)] [] := by first | (simp [entryFrame, mkF, argsToLocals, Value.category]; done) | rfl
def QMn0 (Z : State)  (h0 : Heap) (n0 : Nat) (v : Option Value) (h : Heap) (L : List Loc) : Prop := v = some (.int (0 : Int32)) ∧ Fr n0 L ∧ h = h0
set_option maxRecDepth 65536 in
set_option maxHeartbeats 40000000 in
theorem rmMn0 (l : Launch) (Z : State) (a0 : Array Value) (hw : ∀ d ∈ tables_1, d.before a0 Z = true) (ws : List Jvm.Cond)  (h0 : Heap) (n0 : Nat) (Z0 : n0 ≤ h0.size) :
    own_M l (⟨"java/lang/Math", "min", "(II)I"⟩ : MethodName) jdk_29_method_69_code 2 (some .int) ws ({ frames := 0, cells := 0, slots := 0, locals := 0 } : Room) #[(.int (16 : Int32)), (.int (0 : Int32))] Z h0 (QMn0 Z  h0 n0) := by
  refine MetFree.of_bodySF (Jvm.Free.JP.mathPlain rfl (by decide +kernel)) hisR ?_
  intro p e s m args below meth cd s₁ Bd hml hP hK
  obtain ⟨rfl, hZ, hh⟩ := hP
  obtain ⟨X0, e0, H, hlk, hown, hret⟩ := own_start (R := ({ frames := 0, cells := 0, slots := 0, locals := 0 } : Room)) Bd hh rfl
  have hx := H.1; have hby := H.2; have N0 := Fr.nil n0
  show own_Fin p e below (own_Ans s (QMn0 Z  h0 n0) ({ frames := 0, cells := 0, slots := 0, locals := 0 } : Room).cells ({ frames := 0, cells := 0, slots := 0, locals := 0 } : Room).slots) (s₁.setTop (entryFrame m #[(.int (16 : Int32)), (.int (0 : Int32))] 2))
  refine own_cast (ef_rmMn0 m (16 : Int32) (0 : Int32)) ?_
  show own_Fin p e below _ (s₁.setTop (mkF m 0 #[.val (.int (16 : Int32)), .val (.int (0 : Int32))] []))
  refine o_ildN X0 H (od dB28 0 rfl) rfl ?_
  refine o_ildN X0 H (od dB28 1 rfl) rfl ?_
  refine o_icY X0 H (od dB28 2 rfl) (tlt (by decide : (0 : Int32) < (16 : Int32))).2.2.1 (pc' := 9) (by decide) (by decide) ?_
  refine o_ildN X0 H (od dB28 5 rfl) rfl ?_
  exact own_ret (t := .int) X0 hx hlk hret rfl (Or.inl ⟨rfl, (by simp), _, rfl⟩) (hb hby (od dB28 6 rfl)) (⟨rfl, N0, e0⟩) (by decide) (by decide)
theorem pn_3 : plainName "java/util/Arrays" = true := by first | (simp [plainName, overriddenIn]; done) | decide +kernel
theorem dB27 : oL jdk_65_method_131_code [(0, .iload_n 1, 1), (1, .iload_n 0, 1), (2, .if_icmp .ge 35, 3), (5, .new 43, 3), (8, .dup, 1), (9, .new 45, 3), (12, .dup, 1), (13, .invokespecial 47, 3), (16, .iload_n 0, 1), (17, .invokevirtual 54, 3), (20, .ldc_w 337, 3), (23, .invokevirtual 50, 3), (26, .iload_n 1, 1), (27, .invokevirtual 54, 3), (30, .invokevirtual 61, 3), (33, .invokespecial 65, 3), (36, .athrow, 1), (37, .return_, 1)] := by unfold oL; decide +kernel
theorem ef_rmCl0 (m : MethodId) (x0 : Int32) (x1 : Int32) : entryFrame m #[(.int x0), (.int x1)] 2 = mkF m 0 #[.val (.int x0), .val (.int x1)] [] := by first | (simp [entryFrame, mkF, argsToLocals, Value.category]; done) | rfl
def QCl0 (Z : State)  (h0 : Heap) (n0 : Nat) (v : Option Value) (h : Heap) (L : List Loc) : Prop := v = none ∧ Fr n0 L ∧ h = h0
set_option maxRecDepth 65536 in
set_option maxHeartbeats 40000000 in
theorem rmCl0 (l : Launch) (Z : State) (a0 : Array Value) (hw : ∀ d ∈ tables_1, d.before a0 Z = true) (ws : List Jvm.Cond)  (h0 : Heap) (n0 : Nat) (Z0 : n0 ≤ h0.size) :
    own_M l (⟨"java/util/Arrays", "checkLength", "(II)V"⟩ : MethodName) jdk_65_method_131_code 2 none ws ({ frames := 0, cells := 0, slots := 0, locals := 0 } : Room) #[(.int (0 : Int32)), (.int (0 : Int32))] Z h0 (QCl0 Z  h0 n0) := by
  refine MetFree.of_bodySF (plainFor_of_name pn_3) hisR ?_
  intro p e s m args below meth cd s₁ Bd hml hP hK
  obtain ⟨rfl, hZ, hh⟩ := hP
  obtain ⟨X0, e0, H, hlk, hown, hret⟩ := own_start (R := ({ frames := 0, cells := 0, slots := 0, locals := 0 } : Room)) Bd hh rfl
  have hx := H.1; have hby := H.2; have N0 := Fr.nil n0
  show own_Fin p e below (own_Ans s (QCl0 Z  h0 n0) ({ frames := 0, cells := 0, slots := 0, locals := 0 } : Room).cells ({ frames := 0, cells := 0, slots := 0, locals := 0 } : Room).slots) (s₁.setTop (entryFrame m #[(.int (0 : Int32)), (.int (0 : Int32))] 2))
  refine own_cast (ef_rmCl0 m (0 : Int32) (0 : Int32)) ?_
  show own_Fin p e below _ (s₁.setTop (mkF m 0 #[.val (.int (0 : Int32)), .val (.int (0 : Int32))] []))
  refine o_ildN X0 H (od dB27 0 rfl) rfl ?_
  refine o_ildN X0 H (od dB27 1 rfl) rfl ?_
  refine o_icY X0 H (od dB27 2 rfl) (flt (by decide : ¬ ((0 : Int32) < (0 : Int32)))).2.1 (pc' := 37) (by decide) (by decide) ?_
  exact own_retV X0 hx hlk hret (hb hby (od dB27 17 rfl)) (⟨rfl, N0, e0⟩) (by decide) (by decide)
theorem ef_rmMn1 (m : MethodId) (x0 : Int32) (x1 : Int32) : entryFrame m #[(.int x0), (.int x1)] 2 = mkF m 0 #[.val (.int x0), .val (.int x1)] [] := by first | (simp [entryFrame, mkF, argsToLocals, Value.category]; done) | rfl
def QMn1 (Z : State)  (h0 : Heap) (n0 : Nat) (v : Option Value) (h : Heap) (L : List Loc) : Prop := v = some (.int (1 : Int32)) ∧ Fr n0 L ∧ h = h0
set_option maxRecDepth 65536 in
set_option maxHeartbeats 40000000 in
theorem rmMn1 (l : Launch) (Z : State) (a0 : Array Value) (hw : ∀ d ∈ tables_1, d.before a0 Z = true) (ws : List Jvm.Cond)  (h0 : Heap) (n0 : Nat) (Z0 : n0 ≤ h0.size) :
    own_M l (⟨"java/lang/Math", "min", "(II)I"⟩ : MethodName) jdk_29_method_69_code 2 (some .int) ws ({ frames := 0, cells := 0, slots := 0, locals := 0 } : Room) #[(.int (16 : Int32)), (.int (1 : Int32))] Z h0 (QMn1 Z  h0 n0) := by
  refine MetFree.of_bodySF (Jvm.Free.JP.mathPlain rfl (by decide +kernel)) hisR ?_
  intro p e s m args below meth cd s₁ Bd hml hP hK
  obtain ⟨rfl, hZ, hh⟩ := hP
  obtain ⟨X0, e0, H, hlk, hown, hret⟩ := own_start (R := ({ frames := 0, cells := 0, slots := 0, locals := 0 } : Room)) Bd hh rfl
  have hx := H.1; have hby := H.2; have N0 := Fr.nil n0
  show own_Fin p e below (own_Ans s (QMn1 Z  h0 n0) ({ frames := 0, cells := 0, slots := 0, locals := 0 } : Room).cells ({ frames := 0, cells := 0, slots := 0, locals := 0 } : Room).slots) (s₁.setTop (entryFrame m #[(.int (16 : Int32)), (.int (1 : Int32))] 2))
  refine own_cast (ef_rmMn1 m (16 : Int32) (1 : Int32)) ?_
  show own_Fin p e below _ (s₁.setTop (mkF m 0 #[.val (.int (16 : Int32)), .val (.int (1 : Int32))] []))
  refine o_ildN X0 H (od dB28 0 rfl) rfl ?_
  refine o_ildN X0 H (od dB28 1 rfl) rfl ?_
  refine o_icY X0 H (od dB28 2 rfl) (tlt (by decide : (1 : Int32) < (16 : Int32))).2.2.1 (pc' := 9) (by decide) (by decide) ?_
  refine o_ildN X0 H (od dB28 5 rfl) rfl ?_
  exact own_ret (t := .int) X0 hx hlk hret rfl (Or.inl ⟨rfl, (by simp), _, rfl⟩) (hb hby (od dB28 6 rfl)) (⟨rfl, N0, e0⟩) (by decide) (by decide)
theorem ef_rmCl1 (m : MethodId) (x0 : Int32) (x1 : Int32) : entryFrame m #[(.int x0), (.int x1)] 2 = mkF m 0 #[.val (.int x0), .val (.int x1)] [] := by first | (simp [entryFrame, mkF, argsToLocals, Value.category]; done) | rfl
def QCl1 (Z : State)  (h0 : Heap) (n0 : Nat) (v : Option Value) (h : Heap) (L : List Loc) : Prop := v = none ∧ Fr n0 L ∧ h = h0
set_option maxRecDepth 65536 in
set_option maxHeartbeats 40000000 in
theorem rmCl1 (l : Launch) (Z : State) (a0 : Array Value) (hw : ∀ d ∈ tables_1, d.before a0 Z = true) (ws : List Jvm.Cond)  (h0 : Heap) (n0 : Nat) (Z0 : n0 ≤ h0.size) :
    own_M l (⟨"java/util/Arrays", "checkLength", "(II)V"⟩ : MethodName) jdk_65_method_131_code 2 none ws ({ frames := 0, cells := 0, slots := 0, locals := 0 } : Room) #[(.int (0 : Int32)), (.int (1 : Int32))] Z h0 (QCl1 Z  h0 n0) := by
  refine MetFree.of_bodySF (plainFor_of_name pn_3) hisR ?_
  intro p e s m args below meth cd s₁ Bd hml hP hK
  obtain ⟨rfl, hZ, hh⟩ := hP
  obtain ⟨X0, e0, H, hlk, hown, hret⟩ := own_start (R := ({ frames := 0, cells := 0, slots := 0, locals := 0 } : Room)) Bd hh rfl
  have hx := H.1; have hby := H.2; have N0 := Fr.nil n0
  show own_Fin p e below (own_Ans s (QCl1 Z  h0 n0) ({ frames := 0, cells := 0, slots := 0, locals := 0 } : Room).cells ({ frames := 0, cells := 0, slots := 0, locals := 0 } : Room).slots) (s₁.setTop (entryFrame m #[(.int (0 : Int32)), (.int (1 : Int32))] 2))
  refine own_cast (ef_rmCl1 m (0 : Int32) (1 : Int32)) ?_
  show own_Fin p e below _ (s₁.setTop (mkF m 0 #[.val (.int (0 : Int32)), .val (.int (1 : Int32))] []))
  refine o_ildN X0 H (od dB27 0 rfl) rfl ?_
  refine o_ildN X0 H (od dB27 1 rfl) rfl ?_
  refine o_icY X0 H (od dB27 2 rfl) (flt (by decide : ¬ ((1 : Int32) < (0 : Int32)))).2.1 (pc' := 37) (by decide) (by decide) ?_
  exact own_retV X0 hx hlk hret (hb hby (od dB27 17 rfl)) (⟨rfl, N0, e0⟩) (by decide) (by decide)
theorem ef_rmMn2 (m : MethodId) (x0 : Int32) (x1 : Int32) : entryFrame m #[(.int x0), (.int x1)] 2 = mkF m 0 #[.val (.int x0), .val (.int x1)] [] := by first | (simp [entryFrame, mkF, argsToLocals, Value.category]; done) | rfl
def QMn2 (Z : State)  (h0 : Heap) (n0 : Nat) (v : Option Value) (h : Heap) (L : List Loc) : Prop := v = some (.int (2 : Int32)) ∧ Fr n0 L ∧ h = h0
set_option maxRecDepth 65536 in
set_option maxHeartbeats 40000000 in
theorem rmMn2 (l : Launch) (Z : State) (a0 : Array Value) (hw : ∀ d ∈ tables_1, d.before a0 Z = true) (ws : List Jvm.Cond)  (h0 : Heap) (n0 : Nat) (Z0 : n0 ≤ h0.size) :
    own_M l (⟨"java/lang/Math", "min", "(II)I"⟩ : MethodName) jdk_29_method_69_code 2 (some .int) ws ({ frames := 0, cells := 0, slots := 0, locals := 0 } : Room) #[(.int (16 : Int32)), (.int (2 : Int32))] Z h0 (QMn2 Z  h0 n0) := by
  refine MetFree.of_bodySF (Jvm.Free.JP.mathPlain rfl (by decide +kernel)) hisR ?_
  intro p e s m args below meth cd s₁ Bd hml hP hK
  obtain ⟨rfl, hZ, hh⟩ := hP
  obtain ⟨X0, e0, H, hlk, hown, hret⟩ := own_start (R := ({ frames := 0, cells := 0, slots := 0, locals := 0 } : Room)) Bd hh rfl
  have hx := H.1; have hby := H.2; have N0 := Fr.nil n0
  show own_Fin p e below (own_Ans s (QMn2 Z  h0 n0) ({ frames := 0, cells := 0, slots := 0, locals := 0 } : Room).cells ({ frames := 0, cells := 0, slots := 0, locals := 0 } : Room).slots) (s₁.setTop (entryFrame m #[(.int (16 : Int32)), (.int (2 : Int32))] 2))
  refine own_cast (ef_rmMn2 m (16 : Int32) (2 : Int32)) ?_
  show own_Fin p e below _ (s₁.setTop (mkF m 0 #[.val (.int (16 : Int32)), .val (.int (2 : Int32))] []))
  refine o_ildN X0 H (od dB28 0 rfl) rfl ?_
  refine o_ildN X0 H (od dB28 1 rfl) rfl ?_
  refine o_icY X0 H (od dB28 2 rfl) (tlt (by decide : (2 : Int32) < (16 : Int32))).2.2.1 (pc' := 9) (by decide) (by decide) ?_
  refine o_ildN X0 H (od dB28 5 rfl) rfl ?_
  exact own_ret (t := .int) X0 hx hlk hret rfl (Or.inl ⟨rfl, (by simp), _, rfl⟩) (hb hby (od dB28 6 rfl)) (⟨rfl, N0, e0⟩) (by decide) (by decide)
theorem ef_rmCl2 (m : MethodId) (x0 : Int32) (x1 : Int32) : entryFrame m #[(.int x0), (.int x1)] 2 = mkF m 0 #[.val (.int x0), .val (.int x1)] [] := by first | (simp [entryFrame, mkF, argsToLocals, Value.category]; done) | rfl
def QCl2 (Z : State)  (h0 : Heap) (n0 : Nat) (v : Option Value) (h : Heap) (L : List Loc) : Prop := v = none ∧ Fr n0 L ∧ h = h0
set_option maxRecDepth 65536 in
set_option maxHeartbeats 40000000 in
theorem rmCl2 (l : Launch) (Z : State) (a0 : Array Value) (hw : ∀ d ∈ tables_1, d.before a0 Z = true) (ws : List Jvm.Cond)  (h0 : Heap) (n0 : Nat) (Z0 : n0 ≤ h0.size) :
    own_M l (⟨"java/util/Arrays", "checkLength", "(II)V"⟩ : MethodName) jdk_65_method_131_code 2 none ws ({ frames := 0, cells := 0, slots := 0, locals := 0 } : Room) #[(.int (0 : Int32)), (.int (2 : Int32))] Z h0 (QCl2 Z  h0 n0) := by
  refine MetFree.of_bodySF (plainFor_of_name pn_3) hisR ?_
  intro p e s m args below meth cd s₁ Bd hml hP hK
  obtain ⟨rfl, hZ, hh⟩ := hP
  obtain ⟨X0, e0, H, hlk, hown, hret⟩ := own_start (R := ({ frames := 0, cells := 0, slots := 0, locals := 0 } : Room)) Bd hh rfl
  have hx := H.1; have hby := H.2; have N0 := Fr.nil n0
  show own_Fin p e below (own_Ans s (QCl2 Z  h0 n0) ({ frames := 0, cells := 0, slots := 0, locals := 0 } : Room).cells ({ frames := 0, cells := 0, slots := 0, locals := 0 } : Room).slots) (s₁.setTop (entryFrame m #[(.int (0 : Int32)), (.int (2 : Int32))] 2))
  refine own_cast (ef_rmCl2 m (0 : Int32) (2 : Int32)) ?_
  show own_Fin p e below _ (s₁.setTop (mkF m 0 #[.val (.int (0 : Int32)), .val (.int (2 : Int32))] []))
  refine o_ildN X0 H (od dB27 0 rfl) rfl ?_
  refine o_ildN X0 H (od dB27 1 rfl) rfl ?_
  refine o_icY X0 H (od dB27 2 rfl) (flt (by decide : ¬ ((2 : Int32) < (0 : Int32)))).2.1 (pc' := 37) (by decide) (by decide) ?_
  exact own_retV X0 hx hlk hret (hb hby (od dB27 17 rfl)) (⟨rfl, N0, e0⟩) (by decide) (by decide)
theorem ef_rmMn3 (m : MethodId) (x0 : Int32) (x1 : Int32) : entryFrame m #[(.int x0), (.int x1)] 2 = mkF m 0 #[.val (.int x0), .val (.int x1)] [] := by first | (simp [entryFrame, mkF, argsToLocals, Value.category]; done) | rfl
def QMn3 (Z : State)  (h0 : Heap) (n0 : Nat) (v : Option Value) (h : Heap) (L : List Loc) : Prop := v = some (.int (3 : Int32)) ∧ Fr n0 L ∧ h = h0
set_option maxRecDepth 65536 in
set_option maxHeartbeats 40000000 in
theorem rmMn3 (l : Launch) (Z : State) (a0 : Array Value) (hw : ∀ d ∈ tables_1, d.before a0 Z = true) (ws : List Jvm.Cond)  (h0 : Heap) (n0 : Nat) (Z0 : n0 ≤ h0.size) :
    own_M l (⟨"java/lang/Math", "min", "(II)I"⟩ : MethodName) jdk_29_method_69_code 2 (some .int) ws ({ frames := 0, cells := 0, slots := 0, locals := 0 } : Room) #[(.int (16 : Int32)), (.int (3 : Int32))] Z h0 (QMn3 Z  h0 n0) := by
  refine MetFree.of_bodySF (Jvm.Free.JP.mathPlain rfl (by decide +kernel)) hisR ?_
  intro p e s m args below meth cd s₁ Bd hml hP hK
  obtain ⟨rfl, hZ, hh⟩ := hP
  obtain ⟨X0, e0, H, hlk, hown, hret⟩ := own_start (R := ({ frames := 0, cells := 0, slots := 0, locals := 0 } : Room)) Bd hh rfl
  have hx := H.1; have hby := H.2; have N0 := Fr.nil n0
  show own_Fin p e below (own_Ans s (QMn3 Z  h0 n0) ({ frames := 0, cells := 0, slots := 0, locals := 0 } : Room).cells ({ frames := 0, cells := 0, slots := 0, locals := 0 } : Room).slots) (s₁.setTop (entryFrame m #[(.int (16 : Int32)), (.int (3 : Int32))] 2))
  refine own_cast (ef_rmMn3 m (16 : Int32) (3 : Int32)) ?_
  show own_Fin p e below _ (s₁.setTop (mkF m 0 #[.val (.int (16 : Int32)), .val (.int (3 : Int32))] []))
  refine o_ildN X0 H (od dB28 0 rfl) rfl ?_
  refine o_ildN X0 H (od dB28 1 rfl) rfl ?_
  refine o_icY X0 H (od dB28 2 rfl) (tlt (by decide : (3 : Int32) < (16 : Int32))).2.2.1 (pc' := 9) (by decide) (by decide) ?_
  refine o_ildN X0 H (od dB28 5 rfl) rfl ?_
  exact own_ret (t := .int) X0 hx hlk hret rfl (Or.inl ⟨rfl, (by simp), _, rfl⟩) (hb hby (od dB28 6 rfl)) (⟨rfl, N0, e0⟩) (by decide) (by decide)
theorem ef_rmCl3 (m : MethodId) (x0 : Int32) (x1 : Int32) : entryFrame m #[(.int x0), (.int x1)] 2 = mkF m 0 #[.val (.int x0), .val (.int x1)] [] := by first | (simp [entryFrame, mkF, argsToLocals, Value.category]; done) | rfl
def QCl3 (Z : State)  (h0 : Heap) (n0 : Nat) (v : Option Value) (h : Heap) (L : List Loc) : Prop := v = none ∧ Fr n0 L ∧ h = h0
set_option maxRecDepth 65536 in
set_option maxHeartbeats 40000000 in
theorem rmCl3 (l : Launch) (Z : State) (a0 : Array Value) (hw : ∀ d ∈ tables_1, d.before a0 Z = true) (ws : List Jvm.Cond)  (h0 : Heap) (n0 : Nat) (Z0 : n0 ≤ h0.size) :
    own_M l (⟨"java/util/Arrays", "checkLength", "(II)V"⟩ : MethodName) jdk_65_method_131_code 2 none ws ({ frames := 0, cells := 0, slots := 0, locals := 0 } : Room) #[(.int (0 : Int32)), (.int (3 : Int32))] Z h0 (QCl3 Z  h0 n0) := by
  refine MetFree.of_bodySF (plainFor_of_name pn_3) hisR ?_
  intro p e s m args below meth cd s₁ Bd hml hP hK
  obtain ⟨rfl, hZ, hh⟩ := hP
  obtain ⟨X0, e0, H, hlk, hown, hret⟩ := own_start (R := ({ frames := 0, cells := 0, slots := 0, locals := 0 } : Room)) Bd hh rfl
  have hx := H.1; have hby := H.2; have N0 := Fr.nil n0
  show own_Fin p e below (own_Ans s (QCl3 Z  h0 n0) ({ frames := 0, cells := 0, slots := 0, locals := 0 } : Room).cells ({ frames := 0, cells := 0, slots := 0, locals := 0 } : Room).slots) (s₁.setTop (entryFrame m #[(.int (0 : Int32)), (.int (3 : Int32))] 2))
  refine own_cast (ef_rmCl3 m (0 : Int32) (3 : Int32)) ?_
  show own_Fin p e below _ (s₁.setTop (mkF m 0 #[.val (.int (0 : Int32)), .val (.int (3 : Int32))] []))
  refine o_ildN X0 H (od dB27 0 rfl) rfl ?_
  refine o_ildN X0 H (od dB27 1 rfl) rfl ?_
  refine o_icY X0 H (od dB27 2 rfl) (flt (by decide : ¬ ((3 : Int32) < (0 : Int32)))).2.1 (pc' := 37) (by decide) (by decide) ?_
  exact own_retV X0 hx hlk hret (hb hby (od dB27 17 rfl)) (⟨rfl, N0, e0⟩) (by decide) (by decide)
theorem dB26 : oL jdk_65_method_133_code [(0, .iload_n 1, 1), (1, .iload_n 2, 1), (2, .invokestatic 343, 3), (5, .iload_n 2, 1), (6, .iload_n 1, 1), (7, .isub, 1), (8, .istore_n 3, 1), (9, .iload_n 3, 1), (10, .newarray .byte, 2), (12, .astore 4, 2), (14, .aload_n 0, 1), (15, .iload_n 1, 1), (16, .aload 4, 2), (18, .iconst 0, 1), (19, .aload_n 0, 1), (20, .arraylength, 1), (21, .iload_n 1, 1), (22, .isub, 1), (23, .iload_n 3, 1), (24, .invokestatic 304, 3), (27, .invokestatic 150, 3), (30, .aload 4, 2), (32, .areturn, 1)] := by unfold oL; decide +kernel
theorem pd_5 : parseMethodDescriptor "(II)V" = some ⟨[.int, .int], none⟩ := by decide +kernel
theorem pd_6 : parseMethodDescriptor "(II)I" = some ⟨[.int, .int], some .int⟩ := by decide +kernel
theorem ef_rmCb0 (m : MethodId) (x0 : Addr) (x1 : Int32) (x2 : Int32) : entryFrame m #[(.ref x0), (.int x1), (.int x2)] 5 = mkF m 0 #[.val (.ref x0), .val (.int x1), .val (.int x2), .unset, .unset] [] := by first | (simp [entryFrame, mkF, argsToLocals, Value.category]; done) | rfl
def QCb0 (Z : State) (tb : Addr) (kt : ClassId) (h0 : Heap) (n0 : Nat) (v : Option Value) (h : Heap) (L : List Loc) : Prop := ∃ (x : Addr) (kx : ClassId), v = some (.ref x) ∧ Fr n0 L ∧ Keep h0 h [] ∧ n0 ≤ x ∧ h0.size ≤ x ∧ Arv Z h x kx .byte (0 : Int32) [] (.int 0)
set_option maxRecDepth 65536 in
set_option maxHeartbeats 40000000 in
theorem rmCb0 (l : Launch) (Z : State) (a0 : Array Value) (hw : ∀ d ∈ tables_1, d.before a0 Z = true) (ws : List Jvm.Cond) (tb : Addr) (kt : ClassId) (h0 : Heap) (n0 : Nat) (Z0 : n0 ≤ h0.size) (At : Arv Z h0 tb kt .byte (16 : Int32) [(.int (0 : Int32)), (.int (0 : Int32)), (.int (0 : Int32)), (.int (0 : Int32)), (.int (0 : Int32)), (.int (0 : Int32)), (.int (0 : Int32)), (.int (0 : Int32)), (.int (0 : Int32)), (.int (0 : Int32)), (.int (0 : Int32)), (.int (0 : Int32)), (.int (0 : Int32)), (.int (0 : Int32)), (.int (0 : Int32)), (.int (0 : Int32))] (.int 0)) :
    own_M l (⟨"java/util/Arrays", "copyOfRangeByte", "([BII)[B"⟩ : MethodName) jdk_65_method_133_code 5 (some (.array .byte)) ws ({ frames := 1, cells := 1, slots := 0, locals := 18 } : Room) #[(.ref tb), (.int (0 : Int32)), (.int (0 : Int32))] Z h0 (QCb0 Z tb kt h0 n0) := by
  refine MetFree.of_bodySF (plainFor_of_name pn_3) hisR ?_
  intro p e s m args below meth cd s₁ Bd hml hP hK
  obtain ⟨rfl, hZ, hh⟩ := hP
  obtain ⟨X0, e0, H, hlk, hown, hret⟩ := own_start (R := ({ frames := 1, cells := 1, slots := 0, locals := 18 } : Room)) Bd hh rfl
  have hx := H.1; have hby := H.2; have N0 := Fr.nil n0
  show own_Fin p e below (own_Ans s (QCb0 Z tb kt h0 n0) ({ frames := 1, cells := 1, slots := 0, locals := 18 } : Room).cells ({ frames := 1, cells := 1, slots := 0, locals := 18 } : Room).slots) (s₁.setTop (entryFrame m #[(.ref tb), (.int (0 : Int32)), (.int (0 : Int32))] 5))
  refine own_cast (ef_rmCb0 m tb (0 : Int32) (0 : Int32)) ?_
  show own_Fin p e below _ (s₁.setTop (mkF m 0 #[.val (.ref tb), .val (.int (0 : Int32)), .val (.int (0 : Int32)), .unset, .unset] []))
  refine o_ildN X0 H (od dB26 0 rfl) rfl ?_
  refine o_ildN X0 H (od dB26 1 rfl) rfl ?_
  refine o_tc (argsL := [(.int (0 : Int32)), (.int (0 : Int32))]) (rest := []) X0 H hml hZ hown (ow hw 128 rfl) (ow hw 129 rfl) (ow hw 123 rfl) (ow hw 130 rfl) (backOf (W := 0) (rmCl0 l Z a0 hw []  h0 n0 (by exact Z0)) hZ (ow hw 130 rfl) (ow hw 123 rfl) (by decide) (by decide)) (by decide) e0 pd_5 (od dB26 2 rfl) rfl rfl rfl rfl rfl (by decide) (by decide) (o_pv (fun _ _ _ q => q) N0 fun T65 Lc65 X65 N65 e65 => ?_)
  refine o_ildN X65 H (od dB26 3 rfl) rfl ?_
  refine o_ildN X65 H (od dB26 4 rfl) rfl ?_
  refine own_on (fun tq => XS.isub X65.here hx rfl (hb hby (od dB26 5 rfl)) rfl) ?_
  show own_Fin p e below _ (T65.setTop (mkF m 8 #[.val (.ref tb), .val (.int (0 : Int32)), .val (.int (0 : Int32)), .unset, .unset] [(.int (0 : Int32))]))
  refine o_istN X65 H (od dB26 6 rfl) (L' := #[.val (.ref tb), .val (.int (0 : Int32)), .val (.int (0 : Int32)), .val (.int (0 : Int32)), .unset]) rfl ?_
  refine o_ildN X65 H (od dB26 7 rfl) rfl ?_
  obtain ⟨T66, h66, k66, X66, e66, E66, A66, st66⟩ := newP X65 hx hZ (ow hw 23 rfl) e65 (g := (mkF m 10 #[.val (.ref tb), .val (.int (0 : Int32)), .val (.int (0 : Int32)), .val (.int (0 : Int32)), .unset] [(.int (0 : Int32))])) rfl (hb hby (od dB26 8 rfl)) rfl (by decide) (cap := 0) (by decide) (by decide) (by decide) (by decide)
  obtain ⟨b66, g66⟩ : ∃ z, z = h0.size := ⟨_, rfl⟩
  rw [← g66] at A66 st66
  have ne66_tb : tb ≠ b66 := own_ne_of (Z := Z) At.lt g66
  have gn66 : n0 ≤ b66 := Nat.le_trans Z0 (Nat.le_of_eq g66.symm)
  have gk66 : h0.size ≤ b66 := Nat.le_trans (Keep.refl h0 []).1 (Nat.le_of_eq g66.symm)
  have V66 : Arv Z h66 b66 k66 .byte (0 : Int32) [] (.int (0 : Int32)) := Arv.new A66 (by decide)
  refine own_on st66 ?_
  show own_Fin p e below _ (T66.setTop (mkF m 12 #[.val (.ref tb), .val (.int (0 : Int32)), .val (.int (0 : Int32)), .val (.int (0 : Int32)), .unset] [(.ref b66)]))
  refine o_ast X66 H (od dB26 9 rfl) (L' := #[.val (.ref tb), .val (.int (0 : Int32)), .val (.int (0 : Int32)), .val (.int (0 : Int32)), .val (.ref b66)]) rfl rfl ?_
  refine o_aldN X66 H (od dB26 10 rfl) rfl rfl ?_
  refine o_ildN X66 H (od dB26 11 rfl) rfl ?_
  refine o_ald X66 H (od dB26 12 rfl) rfl rfl ?_
  refine o_ic X66 H (od dB26 13 rfl) (v := 0) rfl ?_
  refine o_aldN X66 H (od dB26 14 rfl) rfl rfl ?_
  have cp67 := (At.ext E66)
  obtain ⟨cl67, Ar67, q67, S67, G67, H67, F67⟩ := cp67
  refine own_on (fun tq => X66.arraylength hx (by rw [e66]; exact Ar67.1) (State.isArrayOf_alike hZ.alike Ar67.2.1) (g := (mkF m 20 #[.val (.ref tb), .val (.int (0 : Int32)), .val (.int (0 : Int32)), .val (.int (0 : Int32)), .val (.ref b66)] [(.ref tb), (.int (0 : Int32)), (.ref b66), (.int (0 : Int32)), (.ref tb)])) rfl rfl (hb hby (od dB26 15 rfl)) tq) ?_
  rw [len_of S67 G67]
  show own_Fin p e below _ (T66.setTop (mkF m 21 #[.val (.ref tb), .val (.int (0 : Int32)), .val (.int (0 : Int32)), .val (.int (0 : Int32)), .val (.ref b66)] [(.int (16 : Int32)), (.int (0 : Int32)), (.ref b66), (.int (0 : Int32)), (.ref tb)]))
  refine o_ildN X66 H (od dB26 16 rfl) rfl ?_
  refine own_on (fun tq => XS.isub X66.here hx rfl (hb hby (od dB26 17 rfl)) rfl) ?_
  show own_Fin p e below _ (T66.setTop (mkF m 23 #[.val (.ref tb), .val (.int (0 : Int32)), .val (.int (0 : Int32)), .val (.int (0 : Int32)), .val (.ref b66)] [(.int (16 : Int32)), (.int (0 : Int32)), (.ref b66), (.int (0 : Int32)), (.ref tb)]))
  refine o_ildN X66 H (od dB26 18 rfl) rfl ?_
  refine o_tc (argsL := [(.int (16 : Int32)), (.int (0 : Int32))]) (rest := [(.int (0 : Int32)), (.ref b66), (.int (0 : Int32)), (.ref tb)]) X66 H hml hZ hown (ow hw 131 rfl) (ow hw 132 rfl) (ow hw 133 rfl) (ow hw 134 rfl) (backOf (W := 4) (rmMn0 l Z a0 hw []  h66 n0 (by exact (Nat.le_trans Z0 E66.1))) hZ (ow hw 134 rfl) (ow hw 133 rfl) (by decide) (by decide)) (by decide) e66 pd_6 (od dB26 19 rfl) rfl rfl rfl rfl rfl (by decide) (by decide) (o_pk (fun _ _ _ q => q) N65 fun T68 Lc68 X68 N68 e68 => ?_)
  have us69 : ([] : List Value) = (List.range ((0 : Int32)).toNatClampNeg).map fun i => ([(.int (0 : Int32)), (.int (0 : Int32)), (.int (0 : Int32)), (.int (0 : Int32)), (.int (0 : Int32)), (.int (0 : Int32)), (.int (0 : Int32)), (.int (0 : Int32)), (.int (0 : Int32)), (.int (0 : Int32)), (.int (0 : Int32)), (.int (0 : Int32)), (.int (0 : Int32)), (.int (0 : Int32)), (.int (0 : Int32)), (.int (0 : Int32))] : List Value).getD (((0 : Int32)).toNatClampNeg + i) (.int 0) := rfl
  obtain ⟨T69, h69, L69, X69, e69, N69, K69, A69, st69⟩ := cpA X68 hx hZ hown (ow hw 135 rfl) (ow hw 138 rfl) (ow hw 136 rfl) (ow hw 137 rfl) e68 (At.ext E66) V66 (Or.inl ⟨rfl, rfl⟩) (sp := (0 : Int32)) (dp := (0 : Int32)) (nn := (0 : Int32)) (by decide) (by decide) (by decide) (by decide) (by decide) us69 (Nat.le_of_ble_eq_true rfl) N68 gn66 (g := (mkF m 27 #[.val (.ref tb), .val (.int (0 : Int32)), .val (.int (0 : Int32)), .val (.int (0 : Int32)), .val (.ref b66)] [(.int (0 : Int32)), (.int (0 : Int32)), (.ref b66), (.int (0 : Int32)), (.ref tb)])) rfl (by rw [hml]; rfl) rfl (hb hby (od dB26 20 rfl)) (by decide) (W := 0) (by show 2 * 0 + _ ≤ _; exact Nat.le_of_eq rfl) (by decide)
  have V69 : Arv Z h69 b66 k66 .byte (0 : Int32) [] (.int (0 : Int32)) := A69
  refine own_on st69 ?_
  show own_Fin p e below _ (T69.setTop (mkF m 30 #[.val (.ref tb), .val (.int (0 : Int32)), .val (.int (0 : Int32)), .val (.int (0 : Int32)), .val (.ref b66)] []))
  refine o_ald X69 H (od dB26 21 rfl) rfl rfl ?_
  exact own_ret (t := (.array .byte)) X69 hx hlk hret rfl (Or.inr (Or.inr (Or.inr (Or.inr ⟨rfl, rfl, rfl⟩)))) (hb hby (od dB26 22 rfl)) (by show QCb0 Z tb kt h0 n0 _ T69.heap _; rw [e69]; exact ⟨b66, k66, rfl, N69, (((Keep.refl h0 []).ext E66).trans K69 (allS (Or.inr gk66) all0)), gn66, gk66, V69⟩) (by decide) (by decide)
theorem dB25 : oL jdk_65_method_132_code [(0, .iload_n 1, 1), (1, .ifCond .ne 9, 3), (4, .iload_n 2, 1), (5, .aload_n 0, 1), (6, .arraylength, 1), (7, .if_icmp .eq 10, 3), (10, .aload_n 0, 1), (11, .iload_n 1, 1), (12, .iload_n 2, 1), (13, .invokestatic 339, 3), (16, .areturn, 1), (17, .aload_n 0, 1), (18, .invokevirtual 310, 3), (21, .checkcast 311, 3), (24, .areturn, 1)] := by unfold oL; decide +kernel
theorem pd_7 : parseMethodDescriptor "([BII)[B" = some ⟨[(.array .byte), .int, .int], some (.array .byte)⟩ := by decide +kernel
theorem ef_rmCr0 (m : MethodId) (x0 : Addr) (x1 : Int32) (x2 : Int32) : entryFrame m #[(.ref x0), (.int x1), (.int x2)] 3 = mkF m 0 #[.val (.ref x0), .val (.int x1), .val (.int x2)] [] := by first | (simp [entryFrame, mkF, argsToLocals, Value.category]; done) | rfl
def QCr0 (Z : State) (tb : Addr) (kt : ClassId) (h0 : Heap) (n0 : Nat) (v : Option Value) (h : Heap) (L : List Loc) : Prop := ∃ (x : Addr) (kx : ClassId), v = some (.ref x) ∧ Fr n0 L ∧ Keep h0 h [] ∧ n0 ≤ x ∧ h0.size ≤ x ∧ Arv Z h x kx .byte (0 : Int32) [] (.int 0)
set_option maxRecDepth 65536 in
set_option maxHeartbeats 40000000 in
theorem rmCr0 (l : Launch) (Z : State) (a0 : Array Value) (hw : ∀ d ∈ tables_1, d.before a0 Z = true) (ws : List Jvm.Cond) (tb : Addr) (kt : ClassId) (h0 : Heap) (n0 : Nat) (Z0 : n0 ≤ h0.size) (At : Arv Z h0 tb kt .byte (16 : Int32) [(.int (0 : Int32)), (.int (0 : Int32)), (.int (0 : Int32)), (.int (0 : Int32)), (.int (0 : Int32)), (.int (0 : Int32)), (.int (0 : Int32)), (.int (0 : Int32)), (.int (0 : Int32)), (.int (0 : Int32)), (.int (0 : Int32)), (.int (0 : Int32)), (.int (0 : Int32)), (.int (0 : Int32)), (.int (0 : Int32)), (.int (0 : Int32))] (.int 0)) :
    own_M l (⟨"java/util/Arrays", "copyOfRange", "([BII)[B"⟩ : MethodName) jdk_65_method_132_code 3 (some (.array .byte)) ws ({ frames := 2, cells := 1, slots := 0, locals := 34 } : Room) #[(.ref tb), (.int (0 : Int32)), (.int (0 : Int32))] Z h0 (QCr0 Z tb kt h0 n0) := by
  refine MetFree.of_bodySF (plainFor_of_name pn_3) hisR ?_
  intro p e s m args below meth cd s₁ Bd hml hP hK
  obtain ⟨rfl, hZ, hh⟩ := hP
  obtain ⟨X0, e0, H, hlk, hown, hret⟩ := own_start (R := ({ frames := 2, cells := 1, slots := 0, locals := 34 } : Room)) Bd hh rfl
  have hx := H.1; have hby := H.2; have N0 := Fr.nil n0
  show own_Fin p e below (own_Ans s (QCr0 Z tb kt h0 n0) ({ frames := 2, cells := 1, slots := 0, locals := 34 } : Room).cells ({ frames := 2, cells := 1, slots := 0, locals := 34 } : Room).slots) (s₁.setTop (entryFrame m #[(.ref tb), (.int (0 : Int32)), (.int (0 : Int32))] 3))
  refine own_cast (ef_rmCr0 m tb (0 : Int32) (0 : Int32)) ?_
  show own_Fin p e below _ (s₁.setTop (mkF m 0 #[.val (.ref tb), .val (.int (0 : Int32)), .val (.int (0 : Int32))] []))
  refine o_ildN X0 H (od dB25 0 rfl) rfl ?_
  refine o_ifN X0 H (od dB25 1 rfl) ((if0 _ _).trans (teq (by decide : (0 : Int32) = (0 : Int32))).2) ?_
  refine o_ildN X0 H (od dB25 2 rfl) rfl ?_
  refine o_aldN X0 H (od dB25 3 rfl) rfl rfl ?_
  have cp70 := At
  obtain ⟨cl70, Ar70, q70, S70, G70, H70, F70⟩ := cp70
  refine own_on (fun tq => X0.arraylength hx (by rw [e0]; exact Ar70.1) (State.isArrayOf_alike hZ.alike Ar70.2.1) (g := (mkF m 6 #[.val (.ref tb), .val (.int (0 : Int32)), .val (.int (0 : Int32))] [(.ref tb), (.int (0 : Int32))])) rfl rfl (hb hby (od dB25 4 rfl)) tq) ?_
  rw [len_of S70 G70]
  show own_Fin p e below _ (s₁.setTop (mkF m 7 #[.val (.ref tb), .val (.int (0 : Int32)), .val (.int (0 : Int32))] [(.int (16 : Int32)), (.int (0 : Int32))]))
  refine o_icN X0 H (od dB25 5 rfl) (feq (by decide : ¬ ((0 : Int32) = (16 : Int32)))).1 ?_
  refine o_aldN X0 H (od dB25 6 rfl) rfl rfl ?_
  refine o_ildN X0 H (od dB25 7 rfl) rfl ?_
  refine o_ildN X0 H (od dB25 8 rfl) rfl ?_
  refine o_tc (argsL := [(.ref tb), (.int (0 : Int32)), (.int (0 : Int32))]) (rest := []) X0 H hml hZ hown (ow hw 125 rfl) (ow hw 126 rfl) (ow hw 123 rfl) (ow hw 127 rfl) (backOf (W := 0) (rmCb0 l Z a0 hw [] tb kt h0 n0 (by exact Z0) At) hZ (ow hw 127 rfl) (ow hw 123 rfl) (by decide) (by decide)) (by decide) e0 pd_7 (od dB25 9 rfl) rfl rfl rfl rfl rfl (by decide) (by decide) fun _ T71 Lc71 X71 hQ71 => ?_
  obtain ⟨x71, kx71, rfl, N71q, K71, gn71, gk71, Aq71⟩ := hQ71
  have ne71_tb : tb ≠ x71 := Nat.ne_of_lt (Nat.lt_of_lt_of_le At.lt gk71)
  have N71 := Fr.app N0 N71q
  show own_Fin p e below _ (T71.setTop (mkF m 16 #[.val (.ref tb), .val (.int (0 : Int32)), .val (.int (0 : Int32))] [(.ref x71)]))
  exact own_ret (t := (.array .byte)) X71 hx hlk hret rfl (Or.inr (Or.inr (Or.inr (Or.inr ⟨rfl, rfl, rfl⟩)))) (hb hby (od dB25 10 rfl)) (by show QCr0 Z tb kt h0 n0 _ T71.heap _; exact ⟨x71, kx71, rfl, N71, ((Keep.refl h0 []).trans K71 all0), gn71, (Nat.le_trans (Keep.refl h0 []).1 gk71), Aq71⟩) (by decide) (by decide)
theorem ef_rmCb1 (m : MethodId) (x0 : Addr) (x1 : Int32) (x2 : Int32) : entryFrame m #[(.ref x0), (.int x1), (.int x2)] 5 = mkF m 0 #[.val (.ref x0), .val (.int x1), .val (.int x2), .unset, .unset] [] := by first | (simp [entryFrame, mkF, argsToLocals, Value.category]; done) | rfl
def QCb1 (Z : State) (tb : Addr) (kt : ClassId) (d0 : Int32) (h0 : Heap) (n0 : Nat) (v : Option Value) (h : Heap) (L : List Loc) : Prop := ∃ (x : Addr) (kx : ClassId), v = some (.ref x) ∧ Fr n0 L ∧ Keep h0 h [] ∧ n0 ≤ x ∧ h0.size ≤ x ∧ Arv Z h x kx .byte (1 : Int32) [(.int (StrChars.lo8 d0))] (.int 0)
set_option maxRecDepth 65536 in
set_option maxHeartbeats 40000000 in
theorem rmCb1 (l : Launch) (Z : State) (a0 : Array Value) (hw : ∀ d ∈ tables_1, d.before a0 Z = true) (ws : List Jvm.Cond) (tb : Addr) (kt : ClassId) (d0 : Int32) (h0 : Heap) (n0 : Nat) (Z0 : n0 ≤ h0.size) (At : Arv Z h0 tb kt .byte (16 : Int32) [(.int (StrChars.lo8 d0)), (.int (0 : Int32)), (.int (0 : Int32)), (.int (0 : Int32)), (.int (0 : Int32)), (.int (0 : Int32)), (.int (0 : Int32)), (.int (0 : Int32)), (.int (0 : Int32)), (.int (0 : Int32)), (.int (0 : Int32)), (.int (0 : Int32)), (.int (0 : Int32)), (.int (0 : Int32)), (.int (0 : Int32)), (.int (0 : Int32))] (.int 0)) :
    own_M l (⟨"java/util/Arrays", "copyOfRangeByte", "([BII)[B"⟩ : MethodName) jdk_65_method_133_code 5 (some (.array .byte)) ws ({ frames := 1, cells := 1, slots := 1, locals := 18 } : Room) #[(.ref tb), (.int (0 : Int32)), (.int (1 : Int32))] Z h0 (QCb1 Z tb kt d0 h0 n0) := by
  refine MetFree.of_bodySF (plainFor_of_name pn_3) hisR ?_
  intro p e s m args below meth cd s₁ Bd hml hP hK
  obtain ⟨rfl, hZ, hh⟩ := hP
  obtain ⟨X0, e0, H, hlk, hown, hret⟩ := own_start (R := ({ frames := 1, cells := 1, slots := 1, locals := 18 } : Room)) Bd hh rfl
  have hx := H.1; have hby := H.2; have N0 := Fr.nil n0
  show own_Fin p e below (own_Ans s (QCb1 Z tb kt d0 h0 n0) ({ frames := 1, cells := 1, slots := 1, locals := 18 } : Room).cells ({ frames := 1, cells := 1, slots := 1, locals := 18 } : Room).slots) (s₁.setTop (entryFrame m #[(.ref tb), (.int (0 : Int32)), (.int (1 : Int32))] 5))
  refine own_cast (ef_rmCb1 m tb (0 : Int32) (1 : Int32)) ?_
  show own_Fin p e below _ (s₁.setTop (mkF m 0 #[.val (.ref tb), .val (.int (0 : Int32)), .val (.int (1 : Int32)), .unset, .unset] []))
  refine o_ildN X0 H (od dB26 0 rfl) rfl ?_
  refine o_ildN X0 H (od dB26 1 rfl) rfl ?_
  refine o_tc (argsL := [(.int (0 : Int32)), (.int (1 : Int32))]) (rest := []) X0 H hml hZ hown (ow hw 128 rfl) (ow hw 129 rfl) (ow hw 123 rfl) (ow hw 130 rfl) (backOf (W := 0) (rmCl1 l Z a0 hw []  h0 n0 (by exact Z0)) hZ (ow hw 130 rfl) (ow hw 123 rfl) (by decide) (by decide)) (by decide) e0 pd_5 (od dB26 2 rfl) rfl rfl rfl rfl rfl (by decide) (by decide) (o_pv (fun _ _ _ q => q) N0 fun T72 Lc72 X72 N72 e72 => ?_)
  refine o_ildN X72 H (od dB26 3 rfl) rfl ?_
  refine o_ildN X72 H (od dB26 4 rfl) rfl ?_
  refine own_on (fun tq => XS.isub X72.here hx rfl (hb hby (od dB26 5 rfl)) rfl) ?_
  show own_Fin p e below _ (T72.setTop (mkF m 8 #[.val (.ref tb), .val (.int (0 : Int32)), .val (.int (1 : Int32)), .unset, .unset] [(.int (1 : Int32))]))
  refine o_istN X72 H (od dB26 6 rfl) (L' := #[.val (.ref tb), .val (.int (0 : Int32)), .val (.int (1 : Int32)), .val (.int (1 : Int32)), .unset]) rfl ?_
  refine o_ildN X72 H (od dB26 7 rfl) rfl ?_
  obtain ⟨T73, h73, k73, X73, e73, E73, A73, st73⟩ := newP X72 hx hZ (ow hw 23 rfl) e72 (g := (mkF m 10 #[.val (.ref tb), .val (.int (0 : Int32)), .val (.int (1 : Int32)), .val (.int (1 : Int32)), .unset] [(.int (1 : Int32))])) rfl (hb hby (od dB26 8 rfl)) rfl (by decide) (cap := 1) (by decide) (by decide) (by decide) (by decide)
  obtain ⟨b73, g73⟩ : ∃ z, z = h0.size := ⟨_, rfl⟩
  rw [← g73] at A73 st73
  have ne73_tb : tb ≠ b73 := own_ne_of (Z := Z) At.lt g73
  have gn73 : n0 ≤ b73 := Nat.le_trans Z0 (Nat.le_of_eq g73.symm)
  have gk73 : h0.size ≤ b73 := Nat.le_trans (Keep.refl h0 []).1 (Nat.le_of_eq g73.symm)
  have V73 : Arv Z h73 b73 k73 .byte (1 : Int32) [(.int (0 : Int32))] (.int (0 : Int32)) := (Arv.new A73 (by decide)).pad (pad_rep [] (.int (0 : Int32)) 1)
  refine own_on st73 ?_
  show own_Fin p e below _ (T73.setTop (mkF m 12 #[.val (.ref tb), .val (.int (0 : Int32)), .val (.int (1 : Int32)), .val (.int (1 : Int32)), .unset] [(.ref b73)]))
  refine o_ast X73 H (od dB26 9 rfl) (L' := #[.val (.ref tb), .val (.int (0 : Int32)), .val (.int (1 : Int32)), .val (.int (1 : Int32)), .val (.ref b73)]) rfl rfl ?_
  refine o_aldN X73 H (od dB26 10 rfl) rfl rfl ?_
  refine o_ildN X73 H (od dB26 11 rfl) rfl ?_
  refine o_ald X73 H (od dB26 12 rfl) rfl rfl ?_
  refine o_ic X73 H (od dB26 13 rfl) (v := 0) rfl ?_
  refine o_aldN X73 H (od dB26 14 rfl) rfl rfl ?_
  have cp74 := (At.ext E73)
  obtain ⟨cl74, Ar74, q74, S74, G74, H74, F74⟩ := cp74
  refine own_on (fun tq => X73.arraylength hx (by rw [e73]; exact Ar74.1) (State.isArrayOf_alike hZ.alike Ar74.2.1) (g := (mkF m 20 #[.val (.ref tb), .val (.int (0 : Int32)), .val (.int (1 : Int32)), .val (.int (1 : Int32)), .val (.ref b73)] [(.ref tb), (.int (0 : Int32)), (.ref b73), (.int (0 : Int32)), (.ref tb)])) rfl rfl (hb hby (od dB26 15 rfl)) tq) ?_
  rw [len_of S74 G74]
  show own_Fin p e below _ (T73.setTop (mkF m 21 #[.val (.ref tb), .val (.int (0 : Int32)), .val (.int (1 : Int32)), .val (.int (1 : Int32)), .val (.ref b73)] [(.int (16 : Int32)), (.int (0 : Int32)), (.ref b73), (.int (0 : Int32)), (.ref tb)]))
  refine o_ildN X73 H (od dB26 16 rfl) rfl ?_
  refine own_on (fun tq => XS.isub X73.here hx rfl (hb hby (od dB26 17 rfl)) rfl) ?_
  show own_Fin p e below _ (T73.setTop (mkF m 23 #[.val (.ref tb), .val (.int (0 : Int32)), .val (.int (1 : Int32)), .val (.int (1 : Int32)), .val (.ref b73)] [(.int (16 : Int32)), (.int (0 : Int32)), (.ref b73), (.int (0 : Int32)), (.ref tb)]))
  refine o_ildN X73 H (od dB26 18 rfl) rfl ?_
  refine o_tc (argsL := [(.int (16 : Int32)), (.int (1 : Int32))]) (rest := [(.int (0 : Int32)), (.ref b73), (.int (0 : Int32)), (.ref tb)]) X73 H hml hZ hown (ow hw 131 rfl) (ow hw 132 rfl) (ow hw 133 rfl) (ow hw 134 rfl) (backOf (W := 4) (rmMn1 l Z a0 hw []  h73 n0 (by exact (Nat.le_trans Z0 E73.1))) hZ (ow hw 134 rfl) (ow hw 133 rfl) (by decide) (by decide)) (by decide) e73 pd_6 (od dB26 19 rfl) rfl rfl rfl rfl rfl (by decide) (by decide) (o_pk (fun _ _ _ q => q) N72 fun T75 Lc75 X75 N75 e75 => ?_)
  have us76 : ([(.int (StrChars.lo8 d0))] : List Value) = (List.range ((1 : Int32)).toNatClampNeg).map fun i => ([(.int (StrChars.lo8 d0)), (.int (0 : Int32)), (.int (0 : Int32)), (.int (0 : Int32)), (.int (0 : Int32)), (.int (0 : Int32)), (.int (0 : Int32)), (.int (0 : Int32)), (.int (0 : Int32)), (.int (0 : Int32)), (.int (0 : Int32)), (.int (0 : Int32)), (.int (0 : Int32)), (.int (0 : Int32)), (.int (0 : Int32)), (.int (0 : Int32))] : List Value).getD (((0 : Int32)).toNatClampNeg + i) (.int 0) := rfl
  obtain ⟨T76, h76, L76, X76, e76, N76, K76, A76, st76⟩ := cpA X75 hx hZ hown (ow hw 135 rfl) (ow hw 138 rfl) (ow hw 136 rfl) (ow hw 137 rfl) e75 (At.ext E73) V73 (Or.inl ⟨rfl, rfl⟩) (sp := (0 : Int32)) (dp := (0 : Int32)) (nn := (1 : Int32)) (by decide) (by decide) (by decide) (by decide) (by decide) us76 (Nat.le_of_ble_eq_true rfl) N75 gn73 (g := (mkF m 27 #[.val (.ref tb), .val (.int (0 : Int32)), .val (.int (1 : Int32)), .val (.int (1 : Int32)), .val (.ref b73)] [(.int (1 : Int32)), (.int (0 : Int32)), (.ref b73), (.int (0 : Int32)), (.ref tb)])) rfl (by rw [hml]; rfl) rfl (hb hby (od dB26 20 rfl)) (by decide) (W := 0) (by show 2 * 0 + _ ≤ _; exact Nat.le_of_eq rfl) (by decide)
  have V76 : Arv Z h76 b73 k73 .byte (1 : Int32) [(.int (StrChars.lo8 d0))] (.int (0 : Int32)) := A76
  refine own_on st76 ?_
  show own_Fin p e below _ (T76.setTop (mkF m 30 #[.val (.ref tb), .val (.int (0 : Int32)), .val (.int (1 : Int32)), .val (.int (1 : Int32)), .val (.ref b73)] []))
  refine o_ald X76 H (od dB26 21 rfl) rfl rfl ?_
  exact own_ret (t := (.array .byte)) X76 hx hlk hret rfl (Or.inr (Or.inr (Or.inr (Or.inr ⟨rfl, rfl, rfl⟩)))) (hb hby (od dB26 22 rfl)) (by show QCb1 Z tb kt d0 h0 n0 _ T76.heap _; rw [e76]; exact ⟨b73, k73, rfl, N76, (((Keep.refl h0 []).ext E73).trans K76 (allS (Or.inr gk73) all0)), gn73, gk73, V76⟩) (by decide) (by decide)
theorem ef_rmCr1 (m : MethodId) (x0 : Addr) (x1 : Int32) (x2 : Int32) : entryFrame m #[(.ref x0), (.int x1), (.int x2)] 3 = mkF m 0 #[.val (.ref x0), .val (.int x1), .val (.int x2)] [] := by first | (simp [entryFrame, mkF, argsToLocals, Value.category]; done) | rfl
def QCr1 (Z : State) (tb : Addr) (kt : ClassId) (d0 : Int32) (h0 : Heap) (n0 : Nat) (v : Option Value) (h : Heap) (L : List Loc) : Prop := ∃ (x : Addr) (kx : ClassId), v = some (.ref x) ∧ Fr n0 L ∧ Keep h0 h [] ∧ n0 ≤ x ∧ h0.size ≤ x ∧ Arv Z h x kx .byte (1 : Int32) [(.int (StrChars.lo8 d0))] (.int 0)
set_option maxRecDepth 65536 in
set_option maxHeartbeats 40000000 in
theorem rmCr1 (l : Launch) (Z : State) (a0 : Array Value) (hw : ∀ d ∈ tables_1, d.before a0 Z = true) (ws : List Jvm.Cond) (tb : Addr) (kt : ClassId) (d0 : Int32) (h0 : Heap) (n0 : Nat) (Z0 : n0 ≤ h0.size) (At : Arv Z h0 tb kt .byte (16 : Int32) [(.int (StrChars.lo8 d0)), (.int (0 : Int32)), (.int (0 : Int32)), (.int (0 : Int32)), (.int (0 : Int32)), (.int (0 : Int32)), (.int (0 : Int32)), (.int (0 : Int32)), (.int (0 : Int32)), (.int (0 : Int32)), (.int (0 : Int32)), (.int (0 : Int32)), (.int (0 : Int32)), (.int (0 : Int32)), (.int (0 : Int32)), (.int (0 : Int32))] (.int 0)) :
    own_M l (⟨"java/util/Arrays", "copyOfRange", "([BII)[B"⟩ : MethodName) jdk_65_method_132_code 3 (some (.array .byte)) ws ({ frames := 2, cells := 1, slots := 1, locals := 34 } : Room) #[(.ref tb), (.int (0 : Int32)), (.int (1 : Int32))] Z h0 (QCr1 Z tb kt d0 h0 n0) := by
  refine MetFree.of_bodySF (plainFor_of_name pn_3) hisR ?_
  intro p e s m args below meth cd s₁ Bd hml hP hK
  obtain ⟨rfl, hZ, hh⟩ := hP
  obtain ⟨X0, e0, H, hlk, hown, hret⟩ := own_start (R := ({ frames := 2, cells := 1, slots := 1, locals := 34 } : Room)) Bd hh rfl
  have hx := H.1; have hby := H.2; have N0 := Fr.nil n0
  show own_Fin p e below (own_Ans s (QCr1 Z tb kt d0 h0 n0) ({ frames := 2, cells := 1, slots := 1, locals := 34 } : Room).cells ({ frames := 2, cells := 1, slots := 1, locals := 34 } : Room).slots) (s₁.setTop (entryFrame m #[(.ref tb), (.int (0 : Int32)), (.int (1 : Int32))] 3))
  refine own_cast (ef_rmCr1 m tb (0 : Int32) (1 : Int32)) ?_
  show own_Fin p e below _ (s₁.setTop (mkF m 0 #[.val (.ref tb), .val (.int (0 : Int32)), .val (.int (1 : Int32))] []))
  refine o_ildN X0 H (od dB25 0 rfl) rfl ?_
  refine o_ifN X0 H (od dB25 1 rfl) ((if0 _ _).trans (teq (by decide : (0 : Int32) = (0 : Int32))).2) ?_
  refine o_ildN X0 H (od dB25 2 rfl) rfl ?_
  refine o_aldN X0 H (od dB25 3 rfl) rfl rfl ?_
  have cp77 := At
  obtain ⟨cl77, Ar77, q77, S77, G77, H77, F77⟩ := cp77
  refine own_on (fun tq => X0.arraylength hx (by rw [e0]; exact Ar77.1) (State.isArrayOf_alike hZ.alike Ar77.2.1) (g := (mkF m 6 #[.val (.ref tb), .val (.int (0 : Int32)), .val (.int (1 : Int32))] [(.ref tb), (.int (1 : Int32))])) rfl rfl (hb hby (od dB25 4 rfl)) tq) ?_
  rw [len_of S77 G77]
  show own_Fin p e below _ (s₁.setTop (mkF m 7 #[.val (.ref tb), .val (.int (0 : Int32)), .val (.int (1 : Int32))] [(.int (16 : Int32)), (.int (1 : Int32))]))
  refine o_icN X0 H (od dB25 5 rfl) (feq (by decide : ¬ ((1 : Int32) = (16 : Int32)))).1 ?_
  refine o_aldN X0 H (od dB25 6 rfl) rfl rfl ?_
  refine o_ildN X0 H (od dB25 7 rfl) rfl ?_
  refine o_ildN X0 H (od dB25 8 rfl) rfl ?_
  refine o_tc (argsL := [(.ref tb), (.int (0 : Int32)), (.int (1 : Int32))]) (rest := []) X0 H hml hZ hown (ow hw 125 rfl) (ow hw 126 rfl) (ow hw 123 rfl) (ow hw 127 rfl) (backOf (W := 0) (rmCb1 l Z a0 hw [] tb kt d0 h0 n0 (by exact Z0) At) hZ (ow hw 127 rfl) (ow hw 123 rfl) (by decide) (by decide)) (by decide) e0 pd_7 (od dB25 9 rfl) rfl rfl rfl rfl rfl (by decide) (by decide) fun _ T78 Lc78 X78 hQ78 => ?_
  obtain ⟨x78, kx78, rfl, N78q, K78, gn78, gk78, Aq78⟩ := hQ78
  have ne78_tb : tb ≠ x78 := Nat.ne_of_lt (Nat.lt_of_lt_of_le At.lt gk78)
  have N78 := Fr.app N0 N78q
  show own_Fin p e below _ (T78.setTop (mkF m 16 #[.val (.ref tb), .val (.int (0 : Int32)), .val (.int (1 : Int32))] [(.ref x78)]))
  exact own_ret (t := (.array .byte)) X78 hx hlk hret rfl (Or.inr (Or.inr (Or.inr (Or.inr ⟨rfl, rfl, rfl⟩)))) (hb hby (od dB25 10 rfl)) (by show QCr1 Z tb kt d0 h0 n0 _ T78.heap _; exact ⟨x78, kx78, rfl, N78, ((Keep.refl h0 []).trans K78 all0), gn78, (Nat.le_trans (Keep.refl h0 []).1 gk78), Aq78⟩) (by decide) (by decide)
theorem ef_rmCb2 (m : MethodId) (x0 : Addr) (x1 : Int32) (x2 : Int32) : entryFrame m #[(.ref x0), (.int x1), (.int x2)] 5 = mkF m 0 #[.val (.ref x0), .val (.int x1), .val (.int x2), .unset, .unset] [] := by first | (simp [entryFrame, mkF, argsToLocals, Value.category]; done) | rfl
def QCb2 (Z : State) (tb : Addr) (kt : ClassId) (d0 : Int32) (d1 : Int32) (h0 : Heap) (n0 : Nat) (v : Option Value) (h : Heap) (L : List Loc) : Prop := ∃ (x : Addr) (kx : ClassId), v = some (.ref x) ∧ Fr n0 L ∧ Keep h0 h [] ∧ n0 ≤ x ∧ h0.size ≤ x ∧ Arv Z h x kx .byte (2 : Int32) [(.int (StrChars.lo8 d0)), (.int (StrChars.lo8 d1))] (.int 0)
set_option maxRecDepth 65536 in
set_option maxHeartbeats 40000000 in
theorem rmCb2 (l : Launch) (Z : State) (a0 : Array Value) (hw : ∀ d ∈ tables_1, d.before a0 Z = true) (ws : List Jvm.Cond) (tb : Addr) (kt : ClassId) (d0 : Int32) (d1 : Int32) (h0 : Heap) (n0 : Nat) (Z0 : n0 ≤ h0.size) (At : Arv Z h0 tb kt .byte (16 : Int32) [(.int (StrChars.lo8 d0)), (.int (StrChars.lo8 d1)), (.int (0 : Int32)), (.int (0 : Int32)), (.int (0 : Int32)), (.int (0 : Int32)), (.int (0 : Int32)), (.int (0 : Int32)), (.int (0 : Int32)), (.int (0 : Int32)), (.int (0 : Int32)), (.int (0 : Int32)), (.int (0 : Int32)), (.int (0 : Int32)), (.int (0 : Int32)), (.int (0 : Int32))] (.int 0)) :
    own_M l (⟨"java/util/Arrays", "copyOfRangeByte", "([BII)[B"⟩ : MethodName) jdk_65_method_133_code 5 (some (.array .byte)) ws ({ frames := 1, cells := 1, slots := 2, locals := 18 } : Room) #[(.ref tb), (.int (0 : Int32)), (.int (2 : Int32))] Z h0 (QCb2 Z tb kt d0 d1 h0 n0) := by
  refine MetFree.of_bodySF (plainFor_of_name pn_3) hisR ?_
  intro p e s m args below meth cd s₁ Bd hml hP hK
  obtain ⟨rfl, hZ, hh⟩ := hP
  obtain ⟨X0, e0, H, hlk, hown, hret⟩ := own_start (R := ({ frames := 1, cells := 1, slots := 2, locals := 18 } : Room)) Bd hh rfl
  have hx := H.1; have hby := H.2; have N0 := Fr.nil n0
  show own_Fin p e below (own_Ans s (QCb2 Z tb kt d0 d1 h0 n0) ({ frames := 1, cells := 1, slots := 2, locals := 18 } : Room).cells ({ frames := 1, cells := 1, slots := 2, locals := 18 } : Room).slots) (s₁.setTop (entryFrame m #[(.ref tb), (.int (0 : Int32)), (.int (2 : Int32))] 5))
  refine own_cast (ef_rmCb2 m tb (0 : Int32) (2 : Int32)) ?_
  show own_Fin p e below _ (s₁.setTop (mkF m 0 #[.val (.ref tb), .val (.int (0 : Int32)), .val (.int (2 : Int32)), .unset, .unset] []))
  refine o_ildN X0 H (od dB26 0 rfl) rfl ?_
  refine o_ildN X0 H (od dB26 1 rfl) rfl ?_
  refine o_tc (argsL := [(.int (0 : Int32)), (.int (2 : Int32))]) (rest := []) X0 H hml hZ hown (ow hw 128 rfl) (ow hw 129 rfl) (ow hw 123 rfl) (ow hw 130 rfl) (backOf (W := 0) (rmCl2 l Z a0 hw []  h0 n0 (by exact Z0)) hZ (ow hw 130 rfl) (ow hw 123 rfl) (by decide) (by decide)) (by decide) e0 pd_5 (od dB26 2 rfl) rfl rfl rfl rfl rfl (by decide) (by decide) (o_pv (fun _ _ _ q => q) N0 fun T79 Lc79 X79 N79 e79 => ?_)
  refine o_ildN X79 H (od dB26 3 rfl) rfl ?_
  refine o_ildN X79 H (od dB26 4 rfl) rfl ?_
  refine own_on (fun tq => XS.isub X79.here hx rfl (hb hby (od dB26 5 rfl)) rfl) ?_
  show own_Fin p e below _ (T79.setTop (mkF m 8 #[.val (.ref tb), .val (.int (0 : Int32)), .val (.int (2 : Int32)), .unset, .unset] [(.int (2 : Int32))]))
  refine o_istN X79 H (od dB26 6 rfl) (L' := #[.val (.ref tb), .val (.int (0 : Int32)), .val (.int (2 : Int32)), .val (.int (2 : Int32)), .unset]) rfl ?_
  refine o_ildN X79 H (od dB26 7 rfl) rfl ?_
  obtain ⟨T80, h80, k80, X80, e80, E80, A80, st80⟩ := newP X79 hx hZ (ow hw 23 rfl) e79 (g := (mkF m 10 #[.val (.ref tb), .val (.int (0 : Int32)), .val (.int (2 : Int32)), .val (.int (2 : Int32)), .unset] [(.int (2 : Int32))])) rfl (hb hby (od dB26 8 rfl)) rfl (by decide) (cap := 2) (by decide) (by decide) (by decide) (by decide)
  obtain ⟨b80, g80⟩ : ∃ z, z = h0.size := ⟨_, rfl⟩
  rw [← g80] at A80 st80
  have ne80_tb : tb ≠ b80 := own_ne_of (Z := Z) At.lt g80
  have gn80 : n0 ≤ b80 := Nat.le_trans Z0 (Nat.le_of_eq g80.symm)
  have gk80 : h0.size ≤ b80 := Nat.le_trans (Keep.refl h0 []).1 (Nat.le_of_eq g80.symm)
  have V80 : Arv Z h80 b80 k80 .byte (2 : Int32) [(.int (0 : Int32)), (.int (0 : Int32))] (.int (0 : Int32)) := (Arv.new A80 (by decide)).pad (pad_rep [] (.int (0 : Int32)) 2)
  refine own_on st80 ?_
  show own_Fin p e below _ (T80.setTop (mkF m 12 #[.val (.ref tb), .val (.int (0 : Int32)), .val (.int (2 : Int32)), .val (.int (2 : Int32)), .unset] [(.ref b80)]))
  refine o_ast X80 H (od dB26 9 rfl) (L' := #[.val (.ref tb), .val (.int (0 : Int32)), .val (.int (2 : Int32)), .val (.int (2 : Int32)), .val (.ref b80)]) rfl rfl ?_
  refine o_aldN X80 H (od dB26 10 rfl) rfl rfl ?_
  refine o_ildN X80 H (od dB26 11 rfl) rfl ?_
  refine o_ald X80 H (od dB26 12 rfl) rfl rfl ?_
  refine o_ic X80 H (od dB26 13 rfl) (v := 0) rfl ?_
  refine o_aldN X80 H (od dB26 14 rfl) rfl rfl ?_
  have cp81 := (At.ext E80)
  obtain ⟨cl81, Ar81, q81, S81, G81, H81, F81⟩ := cp81
  refine own_on (fun tq => X80.arraylength hx (by rw [e80]; exact Ar81.1) (State.isArrayOf_alike hZ.alike Ar81.2.1) (g := (mkF m 20 #[.val (.ref tb), .val (.int (0 : Int32)), .val (.int (2 : Int32)), .val (.int (2 : Int32)), .val (.ref b80)] [(.ref tb), (.int (0 : Int32)), (.ref b80), (.int (0 : Int32)), (.ref tb)])) rfl rfl (hb hby (od dB26 15 rfl)) tq) ?_
  rw [len_of S81 G81]
  show own_Fin p e below _ (T80.setTop (mkF m 21 #[.val (.ref tb), .val (.int (0 : Int32)), .val (.int (2 : Int32)), .val (.int (2 : Int32)), .val (.ref b80)] [(.int (16 : Int32)), (.int (0 : Int32)), (.ref b80), (.int (0 : Int32)), (.ref tb)]))
  refine o_ildN X80 H (od dB26 16 rfl) rfl ?_
  refine own_on (fun tq => XS.isub X80.here hx rfl (hb hby (od dB26 17 rfl)) rfl) ?_
  show own_Fin p e below _ (T80.setTop (mkF m 23 #[.val (.ref tb), .val (.int (0 : Int32)), .val (.int (2 : Int32)), .val (.int (2 : Int32)), .val (.ref b80)] [(.int (16 : Int32)), (.int (0 : Int32)), (.ref b80), (.int (0 : Int32)), (.ref tb)]))
  refine o_ildN X80 H (od dB26 18 rfl) rfl ?_
  refine o_tc (argsL := [(.int (16 : Int32)), (.int (2 : Int32))]) (rest := [(.int (0 : Int32)), (.ref b80), (.int (0 : Int32)), (.ref tb)]) X80 H hml hZ hown (ow hw 131 rfl) (ow hw 132 rfl) (ow hw 133 rfl) (ow hw 134 rfl) (backOf (W := 4) (rmMn2 l Z a0 hw []  h80 n0 (by exact (Nat.le_trans Z0 E80.1))) hZ (ow hw 134 rfl) (ow hw 133 rfl) (by decide) (by decide)) (by decide) e80 pd_6 (od dB26 19 rfl) rfl rfl rfl rfl rfl (by decide) (by decide) (o_pk (fun _ _ _ q => q) N79 fun T82 Lc82 X82 N82 e82 => ?_)
  have us83 : ([(.int (StrChars.lo8 d0)), (.int (StrChars.lo8 d1))] : List Value) = (List.range ((2 : Int32)).toNatClampNeg).map fun i => ([(.int (StrChars.lo8 d0)), (.int (StrChars.lo8 d1)), (.int (0 : Int32)), (.int (0 : Int32)), (.int (0 : Int32)), (.int (0 : Int32)), (.int (0 : Int32)), (.int (0 : Int32)), (.int (0 : Int32)), (.int (0 : Int32)), (.int (0 : Int32)), (.int (0 : Int32)), (.int (0 : Int32)), (.int (0 : Int32)), (.int (0 : Int32)), (.int (0 : Int32))] : List Value).getD (((0 : Int32)).toNatClampNeg + i) (.int 0) := rfl
  obtain ⟨T83, h83, L83, X83, e83, N83, K83, A83, st83⟩ := cpA X82 hx hZ hown (ow hw 135 rfl) (ow hw 138 rfl) (ow hw 136 rfl) (ow hw 137 rfl) e82 (At.ext E80) V80 (Or.inl ⟨rfl, rfl⟩) (sp := (0 : Int32)) (dp := (0 : Int32)) (nn := (2 : Int32)) (by decide) (by decide) (by decide) (by decide) (by decide) us83 (Nat.le_of_ble_eq_true rfl) N82 gn80 (g := (mkF m 27 #[.val (.ref tb), .val (.int (0 : Int32)), .val (.int (2 : Int32)), .val (.int (2 : Int32)), .val (.ref b80)] [(.int (2 : Int32)), (.int (0 : Int32)), (.ref b80), (.int (0 : Int32)), (.ref tb)])) rfl (by rw [hml]; rfl) rfl (hb hby (od dB26 20 rfl)) (by decide) (W := 0) (by show 2 * 0 + _ ≤ _; exact Nat.le_of_eq rfl) (by decide)
  have V83 : Arv Z h83 b80 k80 .byte (2 : Int32) [(.int (StrChars.lo8 d0)), (.int (StrChars.lo8 d1))] (.int (0 : Int32)) := A83
  refine own_on st83 ?_
  show own_Fin p e below _ (T83.setTop (mkF m 30 #[.val (.ref tb), .val (.int (0 : Int32)), .val (.int (2 : Int32)), .val (.int (2 : Int32)), .val (.ref b80)] []))
  refine o_ald X83 H (od dB26 21 rfl) rfl rfl ?_
  exact own_ret (t := (.array .byte)) X83 hx hlk hret rfl (Or.inr (Or.inr (Or.inr (Or.inr ⟨rfl, rfl, rfl⟩)))) (hb hby (od dB26 22 rfl)) (by show QCb2 Z tb kt d0 d1 h0 n0 _ T83.heap _; rw [e83]; exact ⟨b80, k80, rfl, N83, (((Keep.refl h0 []).ext E80).trans K83 (allS (Or.inr gk80) all0)), gn80, gk80, V83⟩) (by decide) (by decide)
theorem ef_rmCr2 (m : MethodId) (x0 : Addr) (x1 : Int32) (x2 : Int32) : entryFrame m #[(.ref x0), (.int x1), (.int x2)] 3 = mkF m 0 #[.val (.ref x0), .val (.int x1), .val (.int x2)] [] := by first | (simp [entryFrame, mkF, argsToLocals, Value.category]; done) | rfl
def QCr2 (Z : State) (tb : Addr) (kt : ClassId) (d0 : Int32) (d1 : Int32) (h0 : Heap) (n0 : Nat) (v : Option Value) (h : Heap) (L : List Loc) : Prop := ∃ (x : Addr) (kx : ClassId), v = some (.ref x) ∧ Fr n0 L ∧ Keep h0 h [] ∧ n0 ≤ x ∧ h0.size ≤ x ∧ Arv Z h x kx .byte (2 : Int32) [(.int (StrChars.lo8 d0)), (.int (StrChars.lo8 d1))] (.int 0)
set_option maxRecDepth 65536 in
set_option maxHeartbeats 40000000 in
theorem rmCr2 (l : Launch) (Z : State) (a0 : Array Value) (hw : ∀ d ∈ tables_1, d.before a0 Z = true) (ws : List Jvm.Cond) (tb : Addr) (kt : ClassId) (d0 : Int32) (d1 : Int32) (h0 : Heap) (n0 : Nat) (Z0 : n0 ≤ h0.size) (At : Arv Z h0 tb kt .byte (16 : Int32) [(.int (StrChars.lo8 d0)), (.int (StrChars.lo8 d1)), (.int (0 : Int32)), (.int (0 : Int32)), (.int (0 : Int32)), (.int (0 : Int32)), (.int (0 : Int32)), (.int (0 : Int32)), (.int (0 : Int32)), (.int (0 : Int32)), (.int (0 : Int32)), (.int (0 : Int32)), (.int (0 : Int32)), (.int (0 : Int32)), (.int (0 : Int32)), (.int (0 : Int32))] (.int 0)) :
    own_M l (⟨"java/util/Arrays", "copyOfRange", "([BII)[B"⟩ : MethodName) jdk_65_method_132_code 3 (some (.array .byte)) ws ({ frames := 2, cells := 1, slots := 2, locals := 34 } : Room) #[(.ref tb), (.int (0 : Int32)), (.int (2 : Int32))] Z h0 (QCr2 Z tb kt d0 d1 h0 n0) := by
  refine MetFree.of_bodySF (plainFor_of_name pn_3) hisR ?_
  intro p e s m args below meth cd s₁ Bd hml hP hK
  obtain ⟨rfl, hZ, hh⟩ := hP
  obtain ⟨X0, e0, H, hlk, hown, hret⟩ := own_start (R := ({ frames := 2, cells := 1, slots := 2, locals := 34 } : Room)) Bd hh rfl
  have hx := H.1; have hby := H.2; have N0 := Fr.nil n0
  show own_Fin p e below (own_Ans s (QCr2 Z tb kt d0 d1 h0 n0) ({ frames := 2, cells := 1, slots := 2, locals := 34 } : Room).cells ({ frames := 2, cells := 1, slots := 2, locals := 34 } : Room).slots) (s₁.setTop (entryFrame m #[(.ref tb), (.int (0 : Int32)), (.int (2 : Int32))] 3))
  refine own_cast (ef_rmCr2 m tb (0 : Int32) (2 : Int32)) ?_
  show own_Fin p e below _ (s₁.setTop (mkF m 0 #[.val (.ref tb), .val (.int (0 : Int32)), .val (.int (2 : Int32))] []))
  refine o_ildN X0 H (od dB25 0 rfl) rfl ?_
  refine o_ifN X0 H (od dB25 1 rfl) ((if0 _ _).trans (teq (by decide : (0 : Int32) = (0 : Int32))).2) ?_
  refine o_ildN X0 H (od dB25 2 rfl) rfl ?_
  refine o_aldN X0 H (od dB25 3 rfl) rfl rfl ?_
  have cp84 := At
  obtain ⟨cl84, Ar84, q84, S84, G84, H84, F84⟩ := cp84
  refine own_on (fun tq => X0.arraylength hx (by rw [e0]; exact Ar84.1) (State.isArrayOf_alike hZ.alike Ar84.2.1) (g := (mkF m 6 #[.val (.ref tb), .val (.int (0 : Int32)), .val (.int (2 : Int32))] [(.ref tb), (.int (2 : Int32))])) rfl rfl (hb hby (od dB25 4 rfl)) tq) ?_
  rw [len_of S84 G84]
  show own_Fin p e below _ (s₁.setTop (mkF m 7 #[.val (.ref tb), .val (.int (0 : Int32)), .val (.int (2 : Int32))] [(.int (16 : Int32)), (.int (2 : Int32))]))
  refine o_icN X0 H (od dB25 5 rfl) (feq (by decide : ¬ ((2 : Int32) = (16 : Int32)))).1 ?_
  refine o_aldN X0 H (od dB25 6 rfl) rfl rfl ?_
  refine o_ildN X0 H (od dB25 7 rfl) rfl ?_
  refine o_ildN X0 H (od dB25 8 rfl) rfl ?_
  refine o_tc (argsL := [(.ref tb), (.int (0 : Int32)), (.int (2 : Int32))]) (rest := []) X0 H hml hZ hown (ow hw 125 rfl) (ow hw 126 rfl) (ow hw 123 rfl) (ow hw 127 rfl) (backOf (W := 0) (rmCb2 l Z a0 hw [] tb kt d0 d1 h0 n0 (by exact Z0) At) hZ (ow hw 127 rfl) (ow hw 123 rfl) (by decide) (by decide)) (by decide) e0 pd_7 (od dB25 9 rfl) rfl rfl rfl rfl rfl (by decide) (by decide) fun _ T85 Lc85 X85 hQ85 => ?_
  obtain ⟨x85, kx85, rfl, N85q, K85, gn85, gk85, Aq85⟩ := hQ85
  have ne85_tb : tb ≠ x85 := Nat.ne_of_lt (Nat.lt_of_lt_of_le At.lt gk85)
  have N85 := Fr.app N0 N85q
  show own_Fin p e below _ (T85.setTop (mkF m 16 #[.val (.ref tb), .val (.int (0 : Int32)), .val (.int (2 : Int32))] [(.ref x85)]))
  exact own_ret (t := (.array .byte)) X85 hx hlk hret rfl (Or.inr (Or.inr (Or.inr (Or.inr ⟨rfl, rfl, rfl⟩)))) (hb hby (od dB25 10 rfl)) (by show QCr2 Z tb kt d0 d1 h0 n0 _ T85.heap _; exact ⟨x85, kx85, rfl, N85, ((Keep.refl h0 []).trans K85 all0), gn85, (Nat.le_trans (Keep.refl h0 []).1 gk85), Aq85⟩) (by decide) (by decide)
theorem ef_rmCb3 (m : MethodId) (x0 : Addr) (x1 : Int32) (x2 : Int32) : entryFrame m #[(.ref x0), (.int x1), (.int x2)] 5 = mkF m 0 #[.val (.ref x0), .val (.int x1), .val (.int x2), .unset, .unset] [] := by first | (simp [entryFrame, mkF, argsToLocals, Value.category]; done) | rfl
def QCb3 (Z : State) (tb : Addr) (kt : ClassId) (d0 : Int32) (d1 : Int32) (d2 : Int32) (h0 : Heap) (n0 : Nat) (v : Option Value) (h : Heap) (L : List Loc) : Prop := ∃ (x : Addr) (kx : ClassId), v = some (.ref x) ∧ Fr n0 L ∧ Keep h0 h [] ∧ n0 ≤ x ∧ h0.size ≤ x ∧ Arv Z h x kx .byte (3 : Int32) [(.int (StrChars.lo8 d0)), (.int (StrChars.lo8 d1)), (.int (StrChars.lo8 d2))] (.int 0)
set_option maxRecDepth 65536 in
set_option maxHeartbeats 40000000 in
theorem rmCb3 (l : Launch) (Z : State) (a0 : Array Value) (hw : ∀ d ∈ tables_1, d.before a0 Z = true) (ws : List Jvm.Cond) (tb : Addr) (kt : ClassId) (d0 : Int32) (d1 : Int32) (d2 : Int32) (h0 : Heap) (n0 : Nat) (Z0 : n0 ≤ h0.size) (At : Arv Z h0 tb kt .byte (16 : Int32) [(.int (StrChars.lo8 d0)), (.int (StrChars.lo8 d1)), (.int (StrChars.lo8 d2)), (.int (0 : Int32)), (.int (0 : Int32)), (.int (0 : Int32)), (.int (0 : Int32)), (.int (0 : Int32)), (.int (0 : Int32)), (.int (0 : Int32)), (.int (0 : Int32)), (.int (0 : Int32)), (.int (0 : Int32)), (.int (0 : Int32)), (.int (0 : Int32)), (.int (0 : Int32))] (.int 0)) :
    own_M l (⟨"java/util/Arrays", "copyOfRangeByte", "([BII)[B"⟩ : MethodName) jdk_65_method_133_code 5 (some (.array .byte)) ws ({ frames := 1, cells := 1, slots := 3, locals := 18 } : Room) #[(.ref tb), (.int (0 : Int32)), (.int (3 : Int32))] Z h0 (QCb3 Z tb kt d0 d1 d2 h0 n0) := by
  refine MetFree.of_bodySF (plainFor_of_name pn_3) hisR ?_
  intro p e s m args below meth cd s₁ Bd hml hP hK
  obtain ⟨rfl, hZ, hh⟩ := hP
  obtain ⟨X0, e0, H, hlk, hown, hret⟩ := own_start (R := ({ frames := 1, cells := 1, slots := 3, locals := 18 } : Room)) Bd hh rfl
  have hx := H.1; have hby := H.2; have N0 := Fr.nil n0
  show own_Fin p e below (own_Ans s (QCb3 Z tb kt d0 d1 d2 h0 n0) ({ frames := 1, cells := 1, slots := 3, locals := 18 } : Room).cells ({ frames := 1, cells := 1, slots := 3, locals := 18 } : Room).slots) (s₁.setTop (entryFrame m #[(.ref tb), (.int (0 : Int32)), (.int (3 : Int32))] 5))
  refine own_cast (ef_rmCb3 m tb (0 : Int32) (3 : Int32)) ?_
  show own_Fin p e below _ (s₁.setTop (mkF m 0 #[.val (.ref tb), .val (.int (0 : Int32)), .val (.int (3 : Int32)), .unset, .unset] []))
  refine o_ildN X0 H (od dB26 0 rfl) rfl ?_
  refine o_ildN X0 H (od dB26 1 rfl) rfl ?_
  refine o_tc (argsL := [(.int (0 : Int32)), (.int (3 : Int32))]) (rest := []) X0 H hml hZ hown (ow hw 128 rfl) (ow hw 129 rfl) (ow hw 123 rfl) (ow hw 130 rfl) (backOf (W := 0) (rmCl3 l Z a0 hw []  h0 n0 (by exact Z0)) hZ (ow hw 130 rfl) (ow hw 123 rfl) (by decide) (by decide)) (by decide) e0 pd_5 (od dB26 2 rfl) rfl rfl rfl rfl rfl (by decide) (by decide) (o_pv (fun _ _ _ q => q) N0 fun T86 Lc86 X86 N86 e86 => ?_)
  refine o_ildN X86 H (od dB26 3 rfl) rfl ?_
  refine o_ildN X86 H (od dB26 4 rfl) rfl ?_
  refine own_on (fun tq => XS.isub X86.here hx rfl (hb hby (od dB26 5 rfl)) rfl) ?_
  show own_Fin p e below _ (T86.setTop (mkF m 8 #[.val (.ref tb), .val (.int (0 : Int32)), .val (.int (3 : Int32)), .unset, .unset] [(.int (3 : Int32))]))
  refine o_istN X86 H (od dB26 6 rfl) (L' := #[.val (.ref tb), .val (.int (0 : Int32)), .val (.int (3 : Int32)), .val (.int (3 : Int32)), .unset]) rfl ?_
  refine o_ildN X86 H (od dB26 7 rfl) rfl ?_
  obtain ⟨T87, h87, k87, X87, e87, E87, A87, st87⟩ := newP X86 hx hZ (ow hw 23 rfl) e86 (g := (mkF m 10 #[.val (.ref tb), .val (.int (0 : Int32)), .val (.int (3 : Int32)), .val (.int (3 : Int32)), .unset] [(.int (3 : Int32))])) rfl (hb hby (od dB26 8 rfl)) rfl (by decide) (cap := 3) (by decide) (by decide) (by decide) (by decide)
  obtain ⟨b87, g87⟩ : ∃ z, z = h0.size := ⟨_, rfl⟩
  rw [← g87] at A87 st87
  have ne87_tb : tb ≠ b87 := own_ne_of (Z := Z) At.lt g87
  have gn87 : n0 ≤ b87 := Nat.le_trans Z0 (Nat.le_of_eq g87.symm)
  have gk87 : h0.size ≤ b87 := Nat.le_trans (Keep.refl h0 []).1 (Nat.le_of_eq g87.symm)
  have V87 : Arv Z h87 b87 k87 .byte (3 : Int32) [(.int (0 : Int32)), (.int (0 : Int32)), (.int (0 : Int32))] (.int (0 : Int32)) := (Arv.new A87 (by decide)).pad (pad_rep [] (.int (0 : Int32)) 3)
  refine own_on st87 ?_
  show own_Fin p e below _ (T87.setTop (mkF m 12 #[.val (.ref tb), .val (.int (0 : Int32)), .val (.int (3 : Int32)), .val (.int (3 : Int32)), .unset] [(.ref b87)]))
  refine o_ast X87 H (od dB26 9 rfl) (L' := #[.val (.ref tb), .val (.int (0 : Int32)), .val (.int (3 : Int32)), .val (.int (3 : Int32)), .val (.ref b87)]) rfl rfl ?_
  refine o_aldN X87 H (od dB26 10 rfl) rfl rfl ?_
  refine o_ildN X87 H (od dB26 11 rfl) rfl ?_
  refine o_ald X87 H (od dB26 12 rfl) rfl rfl ?_
  refine o_ic X87 H (od dB26 13 rfl) (v := 0) rfl ?_
  refine o_aldN X87 H (od dB26 14 rfl) rfl rfl ?_
  have cp88 := (At.ext E87)
  obtain ⟨cl88, Ar88, q88, S88, G88, H88, F88⟩ := cp88
  refine own_on (fun tq => X87.arraylength hx (by rw [e87]; exact Ar88.1) (State.isArrayOf_alike hZ.alike Ar88.2.1) (g := (mkF m 20 #[.val (.ref tb), .val (.int (0 : Int32)), .val (.int (3 : Int32)), .val (.int (3 : Int32)), .val (.ref b87)] [(.ref tb), (.int (0 : Int32)), (.ref b87), (.int (0 : Int32)), (.ref tb)])) rfl rfl (hb hby (od dB26 15 rfl)) tq) ?_
  rw [len_of S88 G88]
  show own_Fin p e below _ (T87.setTop (mkF m 21 #[.val (.ref tb), .val (.int (0 : Int32)), .val (.int (3 : Int32)), .val (.int (3 : Int32)), .val (.ref b87)] [(.int (16 : Int32)), (.int (0 : Int32)), (.ref b87), (.int (0 : Int32)), (.ref tb)]))
  refine o_ildN X87 H (od dB26 16 rfl) rfl ?_
  refine own_on (fun tq => XS.isub X87.here hx rfl (hb hby (od dB26 17 rfl)) rfl) ?_
  show own_Fin p e below _ (T87.setTop (mkF m 23 #[.val (.ref tb), .val (.int (0 : Int32)), .val (.int (3 : Int32)), .val (.int (3 : Int32)), .val (.ref b87)] [(.int (16 : Int32)), (.int (0 : Int32)), (.ref b87), (.int (0 : Int32)), (.ref tb)]))
  refine o_ildN X87 H (od dB26 18 rfl) rfl ?_
  refine o_tc (argsL := [(.int (16 : Int32)), (.int (3 : Int32))]) (rest := [(.int (0 : Int32)), (.ref b87), (.int (0 : Int32)), (.ref tb)]) X87 H hml hZ hown (ow hw 131 rfl) (ow hw 132 rfl) (ow hw 133 rfl) (ow hw 134 rfl) (backOf (W := 4) (rmMn3 l Z a0 hw []  h87 n0 (by exact (Nat.le_trans Z0 E87.1))) hZ (ow hw 134 rfl) (ow hw 133 rfl) (by decide) (by decide)) (by decide) e87 pd_6 (od dB26 19 rfl) rfl rfl rfl rfl rfl (by decide) (by decide) (o_pk (fun _ _ _ q => q) N86 fun T89 Lc89 X89 N89 e89 => ?_)
  have us90 : ([(.int (StrChars.lo8 d0)), (.int (StrChars.lo8 d1)), (.int (StrChars.lo8 d2))] : List Value) = (List.range ((3 : Int32)).toNatClampNeg).map fun i => ([(.int (StrChars.lo8 d0)), (.int (StrChars.lo8 d1)), (.int (StrChars.lo8 d2)), (.int (0 : Int32)), (.int (0 : Int32)), (.int (0 : Int32)), (.int (0 : Int32)), (.int (0 : Int32)), (.int (0 : Int32)), (.int (0 : Int32)), (.int (0 : Int32)), (.int (0 : Int32)), (.int (0 : Int32)), (.int (0 : Int32)), (.int (0 : Int32)), (.int (0 : Int32))] : List Value).getD (((0 : Int32)).toNatClampNeg + i) (.int 0) := rfl
  obtain ⟨T90, h90, L90, X90, e90, N90, K90, A90, st90⟩ := cpA X89 hx hZ hown (ow hw 135 rfl) (ow hw 138 rfl) (ow hw 136 rfl) (ow hw 137 rfl) e89 (At.ext E87) V87 (Or.inl ⟨rfl, rfl⟩) (sp := (0 : Int32)) (dp := (0 : Int32)) (nn := (3 : Int32)) (by decide) (by decide) (by decide) (by decide) (by decide) us90 (Nat.le_of_ble_eq_true rfl) N89 gn87 (g := (mkF m 27 #[.val (.ref tb), .val (.int (0 : Int32)), .val (.int (3 : Int32)), .val (.int (3 : Int32)), .val (.ref b87)] [(.int (3 : Int32)), (.int (0 : Int32)), (.ref b87), (.int (0 : Int32)), (.ref tb)])) rfl (by rw [hml]; rfl) rfl (hb hby (od dB26 20 rfl)) (by decide) (W := 0) (by show 2 * 0 + _ ≤ _; exact Nat.le_of_eq rfl) (by decide)
  have V90 : Arv Z h90 b87 k87 .byte (3 : Int32) [(.int (StrChars.lo8 d0)), (.int (StrChars.lo8 d1)), (.int (StrChars.lo8 d2))] (.int (0 : Int32)) := A90
  refine own_on st90 ?_
  show own_Fin p e below _ (T90.setTop (mkF m 30 #[.val (.ref tb), .val (.int (0 : Int32)), .val (.int (3 : Int32)), .val (.int (3 : Int32)), .val (.ref b87)] []))
  refine o_ald X90 H (od dB26 21 rfl) rfl rfl ?_
  exact own_ret (t := (.array .byte)) X90 hx hlk hret rfl (Or.inr (Or.inr (Or.inr (Or.inr ⟨rfl, rfl, rfl⟩)))) (hb hby (od dB26 22 rfl)) (by show QCb3 Z tb kt d0 d1 d2 h0 n0 _ T90.heap _; rw [e90]; exact ⟨b87, k87, rfl, N90, (((Keep.refl h0 []).ext E87).trans K90 (allS (Or.inr gk87) all0)), gn87, gk87, V90⟩) (by decide) (by decide)
theorem ef_rmCr3 (m : MethodId) (x0 : Addr) (x1 : Int32) (x2 : Int32) : entryFrame m #[(.ref x0), (.int x1), (.int x2)] 3 = mkF m 0 #[.val (.ref x0), .val (.int x1), .val (.int x2)] [] := by first | (simp [entryFrame, mkF, argsToLocals, Value.category]; done) | rfl
def QCr3 (Z : State) (tb : Addr) (kt : ClassId) (d0 : Int32) (d1 : Int32) (d2 : Int32) (h0 : Heap) (n0 : Nat) (v : Option Value) (h : Heap) (L : List Loc) : Prop := ∃ (x : Addr) (kx : ClassId), v = some (.ref x) ∧ Fr n0 L ∧ Keep h0 h [] ∧ n0 ≤ x ∧ h0.size ≤ x ∧ Arv Z h x kx .byte (3 : Int32) [(.int (StrChars.lo8 d0)), (.int (StrChars.lo8 d1)), (.int (StrChars.lo8 d2))] (.int 0)
set_option maxRecDepth 65536 in
set_option maxHeartbeats 40000000 in
theorem rmCr3 (l : Launch) (Z : State) (a0 : Array Value) (hw : ∀ d ∈ tables_1, d.before a0 Z = true) (ws : List Jvm.Cond) (tb : Addr) (kt : ClassId) (d0 : Int32) (d1 : Int32) (d2 : Int32) (h0 : Heap) (n0 : Nat) (Z0 : n0 ≤ h0.size) (At : Arv Z h0 tb kt .byte (16 : Int32) [(.int (StrChars.lo8 d0)), (.int (StrChars.lo8 d1)), (.int (StrChars.lo8 d2)), (.int (0 : Int32)), (.int (0 : Int32)), (.int (0 : Int32)), (.int (0 : Int32)), (.int (0 : Int32)), (.int (0 : Int32)), (.int (0 : Int32)), (.int (0 : Int32)), (.int (0 : Int32)), (.int (0 : Int32)), (.int (0 : Int32)), (.int (0 : Int32)), (.int (0 : Int32))] (.int 0)) :
    own_M l (⟨"java/util/Arrays", "copyOfRange", "([BII)[B"⟩ : MethodName) jdk_65_method_132_code 3 (some (.array .byte)) ws ({ frames := 2, cells := 1, slots := 3, locals := 34 } : Room) #[(.ref tb), (.int (0 : Int32)), (.int (3 : Int32))] Z h0 (QCr3 Z tb kt d0 d1 d2 h0 n0) := by
  refine MetFree.of_bodySF (plainFor_of_name pn_3) hisR ?_
  intro p e s m args below meth cd s₁ Bd hml hP hK
  obtain ⟨rfl, hZ, hh⟩ := hP
  obtain ⟨X0, e0, H, hlk, hown, hret⟩ := own_start (R := ({ frames := 2, cells := 1, slots := 3, locals := 34 } : Room)) Bd hh rfl
  have hx := H.1; have hby := H.2; have N0 := Fr.nil n0
  show own_Fin p e below (own_Ans s (QCr3 Z tb kt d0 d1 d2 h0 n0) ({ frames := 2, cells := 1, slots := 3, locals := 34 } : Room).cells ({ frames := 2, cells := 1, slots := 3, locals := 34 } : Room).slots) (s₁.setTop (entryFrame m #[(.ref tb), (.int (0 : Int32)), (.int (3 : Int32))] 3))
  refine own_cast (ef_rmCr3 m tb (0 : Int32) (3 : Int32)) ?_
  show own_Fin p e below _ (s₁.setTop (mkF m 0 #[.val (.ref tb), .val (.int (0 : Int32)), .val (.int (3 : Int32))] []))
  refine o_ildN X0 H (od dB25 0 rfl) rfl ?_
  refine o_ifN X0 H (od dB25 1 rfl) ((if0 _ _).trans (teq (by decide : (0 : Int32) = (0 : Int32))).2) ?_
  refine o_ildN X0 H (od dB25 2 rfl) rfl ?_
  refine o_aldN X0 H (od dB25 3 rfl) rfl rfl ?_
  have cp91 := At
  obtain ⟨cl91, Ar91, q91, S91, G91, H91, F91⟩ := cp91
  refine own_on (fun tq => X0.arraylength hx (by rw [e0]; exact Ar91.1) (State.isArrayOf_alike hZ.alike Ar91.2.1) (g := (mkF m 6 #[.val (.ref tb), .val (.int (0 : Int32)), .val (.int (3 : Int32))] [(.ref tb), (.int (3 : Int32))])) rfl rfl (hb hby (od dB25 4 rfl)) tq) ?_
  rw [len_of S91 G91]
  show own_Fin p e below _ (s₁.setTop (mkF m 7 #[.val (.ref tb), .val (.int (0 : Int32)), .val (.int (3 : Int32))] [(.int (16 : Int32)), (.int (3 : Int32))]))
  refine o_icN X0 H (od dB25 5 rfl) (feq (by decide : ¬ ((3 : Int32) = (16 : Int32)))).1 ?_
  refine o_aldN X0 H (od dB25 6 rfl) rfl rfl ?_
  refine o_ildN X0 H (od dB25 7 rfl) rfl ?_
  refine o_ildN X0 H (od dB25 8 rfl) rfl ?_
  refine o_tc (argsL := [(.ref tb), (.int (0 : Int32)), (.int (3 : Int32))]) (rest := []) X0 H hml hZ hown (ow hw 125 rfl) (ow hw 126 rfl) (ow hw 123 rfl) (ow hw 127 rfl) (backOf (W := 0) (rmCb3 l Z a0 hw [] tb kt d0 d1 d2 h0 n0 (by exact Z0) At) hZ (ow hw 127 rfl) (ow hw 123 rfl) (by decide) (by decide)) (by decide) e0 pd_7 (od dB25 9 rfl) rfl rfl rfl rfl rfl (by decide) (by decide) fun _ T92 Lc92 X92 hQ92 => ?_
  obtain ⟨x92, kx92, rfl, N92q, K92, gn92, gk92, Aq92⟩ := hQ92
  have ne92_tb : tb ≠ x92 := Nat.ne_of_lt (Nat.lt_of_lt_of_le At.lt gk92)
  have N92 := Fr.app N0 N92q
  show own_Fin p e below _ (T92.setTop (mkF m 16 #[.val (.ref tb), .val (.int (0 : Int32)), .val (.int (3 : Int32))] [(.ref x92)]))
  exact own_ret (t := (.array .byte)) X92 hx hlk hret rfl (Or.inr (Or.inr (Or.inr (Or.inr ⟨rfl, rfl, rfl⟩)))) (hb hby (od dB25 10 rfl)) (by show QCr3 Z tb kt d0 d1 d2 h0 n0 _ T92.heap _; exact ⟨x92, kx92, rfl, N92, ((Keep.refl h0 []).trans K92 all0), gn92, (Nat.le_trans (Keep.refl h0 []).1 gk92), Aq92⟩) (by decide) (by decide)
theorem pn_4 : plainName "java/lang/String" = true := by first | (simp [plainName, overriddenIn]; done) | decide +kernel
theorem dB20 : oL jdk_42_method_150_code [(0, .aload_n 0, 1), (1, .invokespecial 1, 3), (4, .aload_n 1, 1), (5, .invokevirtual 552, 3), (8, .astore_n 3, 1), (9, .aload_n 1, 1), (10, .invokevirtual 549, 3), (13, .istore 4, 2), (15, .aload_n 1, 1), (16, .invokevirtual 1047, 3), (19, .ifCond .eq 22, 3), (22, .aload_n 0, 1), (23, .iconst 0, 1), (24, .putfield 15, 3), (27, .aload_n 0, 1), (28, .aload_n 3, 1), (29, .iconst 0, 1), (30, .iload 4, 2), (32, .invokestatic 54, 3), (35, .putfield 9, 3), (38, .goto 59, 3), (41, .getstatic 38, 3), (44, .ifCond .eq 35, 3), (47, .aload_n 1, 1), (48, .getfield 1048, 3), (51, .ifCond .eq 28, 3), (54, .aload_n 0, 1), (55, .aload_n 3, 1), (56, .iconst 0, 1), (57, .iload 4, 2), (59, .invokestatic 1051, 3), (62, .putfield 9, 3), (65, .aload_n 0, 1), (66, .aload_n 0, 1), (67, .getfield 9, 3), (70, .iload 4, 2), (72, .invokestatic 47, 3), (75, .putfield 15, 3), (78, .return_, 1), (79, .aload_n 0, 1), (80, .iconst 1, 1), (81, .putfield 15, 3), (84, .aload_n 0, 1), (85, .aload_n 3, 1), (86, .iconst 0, 1), (87, .iload 4, 2), (89, .iconst 1, 1), (90, .ishl, 1), (91, .invokestatic 54, 3), (94, .putfield 9, 3), (97, .return_, 1)] := by unfold oL; decide +kernel
theorem pd_8 : parseMethodDescriptor "()[B" = some ⟨[], some (.array .byte)⟩ := by decide +kernel
theorem ef_rmS20 (m : MethodId) (x0 : Addr) (x1 : Addr) : entryFrame m #[(.ref x0), (.ref x1), .null] 5 = mkF m 0 #[.val (.ref x0), .val (.ref x1), .val .null, .unset, .unset] [] := by first | (simp [entryFrame, mkF, argsToLocals, Value.category]; done) | rfl
def QS20 (Z : State) (a : Addr) (b : Addr) (z : Int32) (tb : Addr) (kt : ClassId) (h0 : Heap) (n0 : Nat) (v : Option Value) (h : Heap) (L : List Loc) : Prop := ∃ (x : Addr) (kx : ClassId), v = none ∧ Fr n0 L ∧ Keep h0 h [a] ∧ Exa Z h a "java/lang/String" ∧ Fld Z h a "java/lang/String" "coder" "B" (.int 0) ∧ Fld Z h a "java/lang/String" "value" "[B" (.ref x) ∧ Arv Z h x kx .byte (0 : Int32) [] (.int 0)
set_option maxRecDepth 65536 in
set_option maxHeartbeats 40000000 in
theorem rmS20 (l : Launch) (Z : State) (a0 : Array Value) (hw : ∀ d ∈ tables_1, d.before a0 Z = true) (ws : List Jvm.Cond) (a : Addr) (b : Addr) (z : Int32) (tb : Addr) (kt : ClassId) (h0 : Heap) (n0 : Nat) (Z0 : n0 ≤ h0.size) (hz : ¬ z = (0 : Int32)) (O : Old Z n0 h0) (SC : Sta Z Z.heap "java/lang/String" "COMPACT_STRINGS" "Z" (.int z)) (Eb : Exa Z h0 b "java/lang/StringBuilder") (Fv : Fld Z h0 b "java/lang/AbstractStringBuilder" "value" "[B" (.ref tb)) (Fc : Fld Z h0 b "java/lang/AbstractStringBuilder" "count" "I" (.int (0 : Int32))) (Fk : Fld Z h0 b "java/lang/AbstractStringBuilder" "coder" "B" (.int (0 : Int32))) (At : Arv Z h0 tb kt .byte (16 : Int32) [(.int (0 : Int32)), (.int (0 : Int32)), (.int (0 : Int32)), (.int (0 : Int32)), (.int (0 : Int32)), (.int (0 : Int32)), (.int (0 : Int32)), (.int (0 : Int32)), (.int (0 : Int32)), (.int (0 : Int32)), (.int (0 : Int32)), (.int (0 : Int32)), (.int (0 : Int32)), (.int (0 : Int32)), (.int (0 : Int32)), (.int (0 : Int32))] (.int 0)) (gb : n0 ≤ b) (gt : n0 ≤ tb) (nbt : b ≠ tb) (Ea : Exa Z h0 a "java/lang/String") (V0 : Fld Z h0 a "java/lang/String" "value" "[B" .null) (C0 : Fld Z h0 a "java/lang/String" "coder" "B" (.int (0 : Int32))) (ga : n0 ≤ a) (nab : a ≠ b) (nat : a ≠ tb) :
    own_M l (⟨"java/lang/String", "<init>", "(Ljava/lang/AbstractStringBuilder;Ljava/lang/Void;)V"⟩ : MethodName) jdk_42_method_150_code 5 none ws ({ frames := 3, cells := 1, slots := 0, locals := 49 } : Room) #[(.ref a), (.ref b), .null] Z h0 (QS20 Z a b z tb kt h0 n0) := by
  refine MetFree.of_bodySF (plainFor_of_name pn_4) hisR ?_
  intro p e s m args below meth cd s₁ Bd hml hP hK
  obtain ⟨rfl, hZ, hh⟩ := hP
  obtain ⟨X0, e0, H, hlk, hown, hret⟩ := own_start (R := ({ frames := 3, cells := 1, slots := 0, locals := 49 } : Room)) Bd hh rfl
  have hx := H.1; have hby := H.2; have N0 := Fr.nil n0
  have hnm := (name_of_methodNamed Bd.named Bd.method).1
  show own_Fin p e below (own_Ans s (QS20 Z a b z tb kt h0 n0) ({ frames := 3, cells := 1, slots := 0, locals := 49 } : Room).cells ({ frames := 3, cells := 1, slots := 0, locals := 49 } : Room).slots) (s₁.setTop (entryFrame m #[(.ref a), (.ref b), .null] 5))
  refine own_cast (ef_rmS20 m a b) ?_
  show own_Fin p e below _ (s₁.setTop (mkF m 0 #[.val (.ref a), .val (.ref b), .val .null, .unset, .unset] []))
  refine o_aldN X0 H (od dB20 0 rfl) rfl rfl ?_
  obtain ⟨T93, X93, e93, st93⟩ := initO X0 hx hZ hown (ow hw 15 rfl) (ow hw 16 rfl) (ow hw 17 rfl) e0 (g := (mkF m 1 #[.val (.ref a), .val (.ref b), .val .null, .unset, .unset] [(.ref a)])) rfl (by rw [hml]; rfl) rfl (hb hby (od dB20 1 rfl)) (by decide) (W := 0) (by show 2 * 0 + _ ≤ _; exact Nat.le_of_eq rfl) (by decide)
  refine own_on st93 ?_
  show own_Fin p e below _ (T93.setTop (mkF m 4 #[.val (.ref a), .val (.ref b), .val .null, .unset, .unset] []))
  refine o_aldN X93 H (od dB20 2 rfl) rfl rfl ?_
  refine o_vs (argsL := []) (rest := []) X93 H hml hZ hown (ow hw 100 rfl) (ow hw 101 rfl) (ow hw 103 rfl) (ow hw 102 rfl) (backOf (W := 0) (rm21 l Z a0 hw [] b tb h0 n0 (by exact Z0) Fv) hZ (ow hw 104 rfl) (ow hw 80 rfl) (by decide) (by decide)) (by decide) Eb e93 pd_8 (od dB20 3 rfl) rfl rfl rfl rfl rfl (by decide) (by decide) (o_pk (fun _ _ _ q => q) N0 fun T94 Lc94 X94 N94 e94 => ?_)
  refine o_astN X94 H (od dB20 4 rfl) (L' := #[.val (.ref a), .val (.ref b), .val .null, .val (.ref tb), .unset]) rfl rfl ?_
  refine o_aldN X94 H (od dB20 5 rfl) rfl rfl ?_
  refine o_vc (argsL := []) (rest := []) X94 H hml hZ hown (ow hw 105 rfl) (ow hw 106 rfl) (own_nf (a0 := #[]) (mvT hZ (ow hw 103 rfl)) rfl) (ow hw 108 rfl) (ow hw 109 rfl) (backOf (W := 0) (rm22 l Z a0 hw [] b (0 : Int32) h0 n0 (by exact Z0) Eb Fc) hZ (ow hw 110 rfl) (ow hw 72 rfl) (by decide) (by decide)) (by decide) Eb e94 pd_1 (od dB20 6 rfl) rfl rfl rfl rfl rfl (by decide) (by decide) (o_pk (fun _ _ _ q => q) N94 fun T95 Lc95 X95 N95 e95 => ?_)
  refine o_ist X95 H (od dB20 7 rfl) (L' := #[.val (.ref a), .val (.ref b), .val .null, .val (.ref tb), .val (.int (0 : Int32))]) rfl ?_
  refine o_aldN X95 H (od dB20 8 rfl) rfl rfl ?_
  refine o_vs (argsL := []) (rest := []) X95 H hml hZ hown (ow hw 116 rfl) (ow hw 117 rfl) (ow hw 119 rfl) (ow hw 118 rfl) (backOf (W := 0) (rm24 l Z a0 hw [] b z h0 n0 (by exact Z0) hz O SC Fk) hZ (ow hw 120 rfl) (ow hw 80 rfl) (by decide) (by decide)) (by decide) Eb e95 pd_2 (od dB20 9 rfl) rfl rfl rfl rfl rfl (by decide) (by decide) (o_pk (fun _ _ _ q => q) N95 fun T96 Lc96 X96 N96 e96 => ?_)
  refine o_ifN X96 H (od dB20 10 rfl) ((if0 _ _).trans (feq (by decide : ¬ ((1 : Int32) = (0 : Int32)))).1) ?_
  refine o_aldN X96 H (od dB20 11 rfl) rfl rfl ?_
  refine o_ic X96 H (od dB20 12 rfl) (v := 0) rfl ?_
  obtain ⟨T97, h97, X97, e97, W97, st97⟩ := putFN X96 hx hZ hown (ow hw 30 rfl) Via.refl e96 C0 Ea (Or.inr ⟨(ow hw 31 rfl), rfl, hnm⟩) (ow hw 6 rfl) (ty := .byte) (v' := (.int (0 : Int32))) (by decide) rfl (by decide) (g := (mkF m 24 #[.val (.ref a), .val (.ref b), .val .null, .val (.ref tb), .val (.int (0 : Int32))] [(.int (0 : Int32)), (.ref a)])) rfl rfl (hb hby (od dB20 13 rfl))
  have N97 := Fr.snoc X97 N96 ga
  have y98 := (V0.other W97 (Or.inr (slot_ne (Or.inr (ow hw 33 rfl)) (Or.inr (ow hw 31 rfl)) (by decide) (t := (.array .byte)) (t' := .byte) (by decide) (by decide))))
  refine own_on st97 ?_
  show own_Fin p e below _ (T97.setTop (mkF m 27 #[.val (.ref a), .val (.ref b), .val .null, .val (.ref tb), .val (.int (0 : Int32))] []))
  refine o_aldN X97 H (od dB20 14 rfl) rfl rfl ?_
  refine o_aldN X97 H (od dB20 15 rfl) rfl rfl ?_
  refine o_ic X97 H (od dB20 16 rfl) (v := 0) rfl ?_
  refine o_ild X97 H (od dB20 17 rfl) rfl ?_
  refine o_tc (argsL := [(.ref tb), (.int (0 : Int32)), (.int (0 : Int32))]) (rest := [(.ref a)]) X97 H hml hZ hown (ow hw 121 rfl) (ow hw 122 rfl) (ow hw 123 rfl) (ow hw 124 rfl) (backOf (W := 1) (rmCr0 l Z a0 hw [] tb kt h97 n0 (by exact (Nat.le_trans Z0 (Keep.of_wr W97).1)) (At.other W97 (Ne.symm nat))) hZ (ow hw 124 rfl) (ow hw 123 rfl) (by decide) (by decide)) (by decide) e97 pd_7 (od dB20 18 rfl) rfl rfl rfl rfl rfl (by decide) (by decide) fun _ T99 Lc99 X99 hQ99 => ?_
  obtain ⟨x99, kx99, rfl, N99q, K99, gn99, gk99, Aq99⟩ := hQ99
  have ne99_b : b ≠ x99 := Nat.ne_of_lt (Nat.lt_of_lt_of_le (Eb.wr W97).lt gk99)
  have ne99_tb : tb ≠ x99 := Nat.ne_of_lt (Nat.lt_of_lt_of_le (At.other W97 (Ne.symm nat)).lt gk99)
  have ne99_a : a ≠ x99 := Nat.ne_of_lt (Nat.lt_of_lt_of_le (Ea.wr W97).lt gk99)
  have N99 := Fr.app N97 N99q
  show own_Fin p e below _ (T99.setTop (mkF m 35 #[.val (.ref a), .val (.ref b), .val .null, .val (.ref tb), .val (.int (0 : Int32))] [(.ref x99), (.ref a)]))
  obtain ⟨T100, h100, X100, e100, W100, st100⟩ := putF X99 hx hZ hown (host := "") (Or.inl (ow hw 32 rfl)) Via.refl rfl (y98.keep K99 nin0) ((Ea.wr W97).keep K99) (Or.inr ⟨(ow hw 33 rfl), rfl, hnm⟩) (ow hw 6 rfl) (ty := (.array .byte)) (by decide) rfl rfl (g := (mkF m 35 #[.val (.ref a), .val (.ref b), .val .null, .val (.ref tb), .val (.int (0 : Int32))] [(.ref x99), (.ref a)])) rfl rfl (hb hby (od dB20 19 rfl))
  have N100 := Fr.snoc X100 N99 ga
  have y101 := ((((Keep.refl h0 [a]).wr W97 (Or.inl (List.mem_of_getElem? (i := 0) rfl))).trans K99 all0).wr W100 (Or.inl (List.mem_of_getElem? (i := 0) rfl)))
  have y102 := (((C0.same W97).keep K99 nin0).other W100 (Or.inr (slot_ne (Or.inr (ow hw 31 rfl)) (Or.inr (ow hw 33 rfl)) (by decide) (t := .byte) (t' := (.array .byte)) (by decide) (by decide))))
  refine own_on st100 ?_
  show own_Fin p e below _ (T100.setTop (mkF m 38 #[.val (.ref a), .val (.ref b), .val .null, .val (.ref tb), .val (.int (0 : Int32))] []))
  refine o_go X100 H (od dB20 20 rfl) (pc' := 97) (by decide) (by decide) ?_
  exact own_retV X100 hx hlk hret (hb hby (od dB20 50 rfl)) (by show QS20 Z a b z tb kt h0 n0 _ T100.heap _; rw [e100]; exact ⟨x99, kx99, rfl, N100, y101, (((Ea.wr W97).keep K99).wr W100), y102, ((y98.keep K99 nin0).same W100), (Aq99.other W100 (Ne.symm ne99_a))⟩) (by decide) (by decide)
theorem dB19 : oL jdk_42_method_53_code [(0, .aload_n 0, 1), (1, .aload_n 1, 1), (2, .aconst_null, 1), (3, .invokespecial 489, 3), (6, .return_, 1)] := by unfold oL; decide +kernel
theorem pd_9 : parseMethodDescriptor "(Ljava/lang/AbstractStringBuilder;Ljava/lang/Void;)V" = some ⟨[(.object "java/lang/AbstractStringBuilder"), (.object "java/lang/Void")], none⟩ := by decide +kernel
theorem ef_rmS10 (m : MethodId) (x0 : Addr) (x1 : Addr) : entryFrame m #[(.ref x0), (.ref x1)] 2 = mkF m 0 #[.val (.ref x0), .val (.ref x1)] [] := by first | (simp [entryFrame, mkF, argsToLocals, Value.category]; done) | rfl
def QS10 (Z : State) (a : Addr) (b : Addr) (z : Int32) (tb : Addr) (kt : ClassId) (h0 : Heap) (n0 : Nat) (v : Option Value) (h : Heap) (L : List Loc) : Prop := ∃ (x : Addr) (kx : ClassId), v = none ∧ Fr n0 L ∧ Keep h0 h [a] ∧ Exa Z h a "java/lang/String" ∧ Fld Z h a "java/lang/String" "coder" "B" (.int 0) ∧ Fld Z h a "java/lang/String" "value" "[B" (.ref x) ∧ Arv Z h x kx .byte (0 : Int32) [] (.int 0)
set_option maxRecDepth 65536 in
set_option maxHeartbeats 40000000 in
theorem rmS10 (l : Launch) (Z : State) (a0 : Array Value) (hw : ∀ d ∈ tables_1, d.before a0 Z = true) (ws : List Jvm.Cond) (a : Addr) (b : Addr) (z : Int32) (tb : Addr) (kt : ClassId) (h0 : Heap) (n0 : Nat) (Z0 : n0 ≤ h0.size) (hz : ¬ z = (0 : Int32)) (O : Old Z n0 h0) (SC : Sta Z Z.heap "java/lang/String" "COMPACT_STRINGS" "Z" (.int z)) (Eb : Exa Z h0 b "java/lang/StringBuilder") (Fv : Fld Z h0 b "java/lang/AbstractStringBuilder" "value" "[B" (.ref tb)) (Fc : Fld Z h0 b "java/lang/AbstractStringBuilder" "count" "I" (.int (0 : Int32))) (Fk : Fld Z h0 b "java/lang/AbstractStringBuilder" "coder" "B" (.int (0 : Int32))) (At : Arv Z h0 tb kt .byte (16 : Int32) [(.int (0 : Int32)), (.int (0 : Int32)), (.int (0 : Int32)), (.int (0 : Int32)), (.int (0 : Int32)), (.int (0 : Int32)), (.int (0 : Int32)), (.int (0 : Int32)), (.int (0 : Int32)), (.int (0 : Int32)), (.int (0 : Int32)), (.int (0 : Int32)), (.int (0 : Int32)), (.int (0 : Int32)), (.int (0 : Int32)), (.int (0 : Int32))] (.int 0)) (gb : n0 ≤ b) (gt : n0 ≤ tb) (nbt : b ≠ tb) (Ea : Exa Z h0 a "java/lang/String") (V0 : Fld Z h0 a "java/lang/String" "value" "[B" .null) (C0 : Fld Z h0 a "java/lang/String" "coder" "B" (.int (0 : Int32))) (ga : n0 ≤ a) (nab : a ≠ b) (nat : a ≠ tb) :
    own_M l (⟨"java/lang/String", "<init>", "(Ljava/lang/StringBuilder;)V"⟩ : MethodName) jdk_42_method_53_code 2 none ws ({ frames := 4, cells := 1, slots := 0, locals := 65 } : Room) #[(.ref a), (.ref b)] Z h0 (QS10 Z a b z tb kt h0 n0) := by
  refine MetFree.of_bodySF (plainFor_of_name pn_4) hisR ?_
  intro p e s m args below meth cd s₁ Bd hml hP hK
  obtain ⟨rfl, hZ, hh⟩ := hP
  obtain ⟨X0, e0, H, hlk, hown, hret⟩ := own_start (R := ({ frames := 4, cells := 1, slots := 0, locals := 65 } : Room)) Bd hh rfl
  have hx := H.1; have hby := H.2; have N0 := Fr.nil n0
  show own_Fin p e below (own_Ans s (QS10 Z a b z tb kt h0 n0) ({ frames := 4, cells := 1, slots := 0, locals := 65 } : Room).cells ({ frames := 4, cells := 1, slots := 0, locals := 65 } : Room).slots) (s₁.setTop (entryFrame m #[(.ref a), (.ref b)] 2))
  refine own_cast (ef_rmS10 m a b) ?_
  show own_Fin p e below _ (s₁.setTop (mkF m 0 #[.val (.ref a), .val (.ref b)] []))
  refine o_aldN X0 H (od dB19 0 rfl) rfl rfl ?_
  refine o_aldN X0 H (od dB19 1 rfl) rfl rfl ?_
  refine o_nul X0 H (od dB19 2 rfl) ?_
  refine o_sc (b := a) (argsL := [(.ref b), .null]) (rest := []) X0 H hml hZ hown (ow hw 97 rfl) (ow hw 98 rfl) (ow hw 99 rfl) (backOf (W := 0) (rmS20 l Z a0 hw [] a b z tb kt h0 n0 (by exact Z0) hz O SC Eb Fv Fc Fk At gb gt nbt Ea V0 C0 ga nab nat) hZ (ow hw 99 rfl) (ow hw 7 rfl) (by decide) (by decide)) rfl (by decide) e0 pd_9 (od dB19 3 rfl) rfl rfl rfl rfl rfl (by decide) (by decide) fun _ T103 Lc103 X103 hQ103 => ?_
  obtain ⟨x103, kx103, rfl, N103q, K103, Eq103, Cq103, Vq103, Aq103⟩ := hQ103
  have N103 := Fr.app N0 N103q
  show own_Fin p e below _ (T103.setTop (mkF m 6 #[.val (.ref a), .val (.ref b)] []))
  exact own_retV X103 hx hlk hret (hb hby (od dB19 4 rfl)) (by show QS10 Z a b z tb kt h0 n0 _ T103.heap _; exact ⟨x103, kx103, rfl, N103, ((Keep.refl h0 [a]).trans K103 (allS (Or.inl (List.mem_of_getElem? (i := 0) rfl)) all0)), Eq103, Cq103, Vq103, Aq103⟩) (by decide) (by decide)
theorem dB18 : oL jdk_67_method_42_code [(0, .new 18, 3), (3, .dup, 1), (4, .aload_n 0, 1), (5, .invokespecial 137, 3), (8, .areturn, 1)] := by unfold oL; decide +kernel
theorem pd_10 : parseMethodDescriptor "(Ljava/lang/StringBuilder;)V" = some ⟨[(.object "java/lang/StringBuilder")], none⟩ := by decide +kernel
theorem ef_rmTs0 (m : MethodId) (x0 : Addr) : entryFrame m #[(.ref x0)] 1 = mkF m 0 #[.val (.ref x0)] [] := by first | (simp [entryFrame, mkF, argsToLocals, Value.category]; done) | rfl
def QTs0 (Z : State) (b : Addr) (z : Int32) (tb : Addr) (kt : ClassId) (h0 : Heap) (n0 : Nat) (v : Option Value) (h : Heap) (L : List Loc) : Prop := ∃ (y x : Addr) (kx : ClassId), v = some (.ref y) ∧ Fr n0 L ∧ Keep h0 h [] ∧ h0.size ≤ y ∧ Exa Z h y "java/lang/String" ∧ Fld Z h y "java/lang/String" "coder" "B" (.int 0) ∧ Fld Z h y "java/lang/String" "value" "[B" (.ref x) ∧ Arv Z h x kx .byte (0 : Int32) [] (.int 0)
set_option maxRecDepth 65536 in
set_option maxHeartbeats 40000000 in
theorem rmTs0 (l : Launch) (Z : State) (a0 : Array Value) (hw : ∀ d ∈ tables_1, d.before a0 Z = true) (ws : List Jvm.Cond) (b : Addr) (z : Int32) (tb : Addr) (kt : ClassId) (h0 : Heap) (n0 : Nat) (Z0 : n0 ≤ h0.size) (hz : ¬ z = (0 : Int32)) (O : Old Z n0 h0) (SC : Sta Z Z.heap "java/lang/String" "COMPACT_STRINGS" "Z" (.int z)) (Eb : Exa Z h0 b "java/lang/StringBuilder") (Fv : Fld Z h0 b "java/lang/AbstractStringBuilder" "value" "[B" (.ref tb)) (Fc : Fld Z h0 b "java/lang/AbstractStringBuilder" "count" "I" (.int (0 : Int32))) (Fk : Fld Z h0 b "java/lang/AbstractStringBuilder" "coder" "B" (.int (0 : Int32))) (At : Arv Z h0 tb kt .byte (16 : Int32) [(.int (0 : Int32)), (.int (0 : Int32)), (.int (0 : Int32)), (.int (0 : Int32)), (.int (0 : Int32)), (.int (0 : Int32)), (.int (0 : Int32)), (.int (0 : Int32)), (.int (0 : Int32)), (.int (0 : Int32)), (.int (0 : Int32)), (.int (0 : Int32)), (.int (0 : Int32)), (.int (0 : Int32)), (.int (0 : Int32)), (.int (0 : Int32))] (.int 0)) (gb : n0 ≤ b) (gt : n0 ≤ tb) (nbt : b ≠ tb) :
    own_M l (⟨"java/lang/StringBuilder", "toString", "()Ljava/lang/String;"⟩ : MethodName) jdk_67_method_42_code 1 (some (.object "java/lang/String")) ws ({ frames := 5, cells := 2, slots := 4, locals := 79 } : Room) #[(.ref b)] Z h0 (QTs0 Z b z tb kt h0 n0) := by
  refine MetFree.of_bodySF (plainFor_of_name pn_1) hisR ?_
  intro p e s m args below meth cd s₁ Bd hml hP hK
  obtain ⟨rfl, hZ, hh⟩ := hP
  obtain ⟨X0, e0, H, hlk, hown, hret⟩ := own_start (R := ({ frames := 5, cells := 2, slots := 4, locals := 79 } : Room)) Bd hh rfl
  have hx := H.1; have hby := H.2; have N0 := Fr.nil n0
  show own_Fin p e below (own_Ans s (QTs0 Z b z tb kt h0 n0) ({ frames := 5, cells := 2, slots := 4, locals := 79 } : Room).cells ({ frames := 5, cells := 2, slots := 4, locals := 79 } : Room).slots) (s₁.setTop (entryFrame m #[(.ref b)] 1))
  refine own_cast (ef_rmTs0 m b) ?_
  show own_Fin p e below _ (s₁.setTop (mkF m 0 #[.val (.ref b)] []))
  obtain ⟨T104, h104, X104, e104, E104, A104, D104, -, st104⟩ := newO X0 hx hZ hown (ow hw 93 rfl) (ow hw 6 rfl) (ow hw 7 rfl) e0 (g := (mkF m 0 #[.val (.ref b)] [])) rfl (hb hby (od dB18 0 rfl)) (by decide) (by decide)
  obtain ⟨b104, g104⟩ : ∃ z, z = h0.size := ⟨_, rfl⟩
  rw [← g104] at A104 D104 st104
  have ne104_b : b ≠ b104 := own_ne_of (Z := Z) Eb.lt g104
  have ne104_tb : tb ≠ b104 := own_ne_of (Z := Z) At.lt g104
  have gn104 : n0 ≤ b104 := Nat.le_trans Z0 (Nat.le_of_eq g104.symm)
  have gk104 : h0.size ≤ b104 := Nat.le_trans (Keep.refl h0 []).1 (Nat.le_of_eq g104.symm)
  have F104_coder : Fld Z h104 b104 "java/lang/String" "coder" "B" (.int (0 : Int32)) := D104 (Or.inr (ow hw 31 rfl)) (ty := .byte) (by decide)
  have F104_value : Fld Z h104 b104 "java/lang/String" "value" "[B" .null := D104 (Or.inr (ow hw 33 rfl)) (ty := (.array .byte)) (by decide)
  refine own_on st104 ?_
  show own_Fin p e below _ (T104.setTop (mkF m 3 #[.val (.ref b)] [(.ref b104)]))
  refine o_dup X104 H (od dB18 1 rfl) rfl ?_
  refine o_aldN X104 H (od dB18 2 rfl) rfl rfl ?_
  refine o_sc (b := b104) (argsL := [(.ref b)]) (rest := [(.ref b104)]) X104 H hml hZ hown (ow hw 94 rfl) (ow hw 95 rfl) (ow hw 96 rfl) (backOf (W := 1) (rmS10 l Z a0 hw [] b104 b z tb kt h104 n0 (by exact (Nat.le_trans Z0 E104.1)) hz (O.ext E104) SC (Eb.ext E104) (Fv.ext E104) (Fc.ext E104) (Fk.ext E104) (At.ext E104) gb gt nbt A104 F104_value F104_coder gn104 (Ne.symm ne104_b) (Ne.symm ne104_tb)) hZ (ow hw 96 rfl) (ow hw 7 rfl) (by decide) (by decide)) rfl (by decide) e104 pd_10 (od dB18 3 rfl) rfl rfl rfl rfl rfl (by decide) (by decide) fun _ T105 Lc105 X105 hQ105 => ?_
  obtain ⟨x105, kx105, rfl, N105q, K105, Eq105, Cq105, Vq105, Aq105⟩ := hQ105
  have N105 := Fr.app N0 N105q
  show own_Fin p e below _ (T105.setTop (mkF m 8 #[.val (.ref b)] [(.ref b104)]))
  exact own_ret (t := (.object "java/lang/String")) X105 hx hlk hret rfl (Or.inr (Or.inr (Or.inr (Or.inr ⟨rfl, rfl, rfl⟩)))) (hb hby (od dB18 4 rfl)) (by show QTs0 Z b z tb kt h0 n0 _ T105.heap _; exact ⟨b104, x105, kx105, rfl, N105, (((Keep.refl h0 []).ext E104).trans K105 (allS (Or.inr gk104) all0)), gk104, Eq105, Cq105, Vq105, Aq105⟩) (by decide) (by decide)
theorem ef_rmS21 (m : MethodId) (x0 : Addr) (x1 : Addr) : entryFrame m #[(.ref x0), (.ref x1), .null] 5 = mkF m 0 #[.val (.ref x0), .val (.ref x1), .val .null, .unset, .unset] [] := by first | (simp [entryFrame, mkF, argsToLocals, Value.category]; done) | rfl
def QS21 (Z : State) (a : Addr) (b : Addr) (z : Int32) (tb : Addr) (kt : ClassId) (d0 : Int32) (h0 : Heap) (n0 : Nat) (v : Option Value) (h : Heap) (L : List Loc) : Prop := ∃ (x : Addr) (kx : ClassId), v = none ∧ Fr n0 L ∧ Keep h0 h [a] ∧ Exa Z h a "java/lang/String" ∧ Fld Z h a "java/lang/String" "coder" "B" (.int 0) ∧ Fld Z h a "java/lang/String" "value" "[B" (.ref x) ∧ Arv Z h x kx .byte (1 : Int32) [(.int (StrChars.lo8 d0))] (.int 0)
set_option maxRecDepth 65536 in
set_option maxHeartbeats 40000000 in
theorem rmS21 (l : Launch) (Z : State) (a0 : Array Value) (hw : ∀ d ∈ tables_1, d.before a0 Z = true) (ws : List Jvm.Cond) (a : Addr) (b : Addr) (z : Int32) (tb : Addr) (kt : ClassId) (d0 : Int32) (h0 : Heap) (n0 : Nat) (Z0 : n0 ≤ h0.size) (hz : ¬ z = (0 : Int32)) (O : Old Z n0 h0) (SC : Sta Z Z.heap "java/lang/String" "COMPACT_STRINGS" "Z" (.int z)) (Eb : Exa Z h0 b "java/lang/StringBuilder") (Fv : Fld Z h0 b "java/lang/AbstractStringBuilder" "value" "[B" (.ref tb)) (Fc : Fld Z h0 b "java/lang/AbstractStringBuilder" "count" "I" (.int (1 : Int32))) (Fk : Fld Z h0 b "java/lang/AbstractStringBuilder" "coder" "B" (.int (0 : Int32))) (At : Arv Z h0 tb kt .byte (16 : Int32) [(.int (StrChars.lo8 d0)), (.int (0 : Int32)), (.int (0 : Int32)), (.int (0 : Int32)), (.int (0 : Int32)), (.int (0 : Int32)), (.int (0 : Int32)), (.int (0 : Int32)), (.int (0 : Int32)), (.int (0 : Int32)), (.int (0 : Int32)), (.int (0 : Int32)), (.int (0 : Int32)), (.int (0 : Int32)), (.int (0 : Int32)), (.int (0 : Int32))] (.int 0)) (gb : n0 ≤ b) (gt : n0 ≤ tb) (nbt : b ≠ tb) (Ea : Exa Z h0 a "java/lang/String") (V0 : Fld Z h0 a "java/lang/String" "value" "[B" .null) (C0 : Fld Z h0 a "java/lang/String" "coder" "B" (.int (0 : Int32))) (ga : n0 ≤ a) (nab : a ≠ b) (nat : a ≠ tb) :
    own_M l (⟨"java/lang/String", "<init>", "(Ljava/lang/AbstractStringBuilder;Ljava/lang/Void;)V"⟩ : MethodName) jdk_42_method_150_code 5 none ws ({ frames := 3, cells := 1, slots := 1, locals := 49 } : Room) #[(.ref a), (.ref b), .null] Z h0 (QS21 Z a b z tb kt d0 h0 n0) := by
  refine MetFree.of_bodySF (plainFor_of_name pn_4) hisR ?_
  intro p e s m args below meth cd s₁ Bd hml hP hK
  obtain ⟨rfl, hZ, hh⟩ := hP
  obtain ⟨X0, e0, H, hlk, hown, hret⟩ := own_start (R := ({ frames := 3, cells := 1, slots := 1, locals := 49 } : Room)) Bd hh rfl
  have hx := H.1; have hby := H.2; have N0 := Fr.nil n0
  have hnm := (name_of_methodNamed Bd.named Bd.method).1
  show own_Fin p e below (own_Ans s (QS21 Z a b z tb kt d0 h0 n0) ({ frames := 3, cells := 1, slots := 1, locals := 49 } : Room).cells ({ frames := 3, cells := 1, slots := 1, locals := 49 } : Room).slots) (s₁.setTop (entryFrame m #[(.ref a), (.ref b), .null] 5))
  refine own_cast (ef_rmS21 m a b) ?_
  show own_Fin p e below _ (s₁.setTop (mkF m 0 #[.val (.ref a), .val (.ref b), .val .null, .unset, .unset] []))
  refine o_aldN X0 H (od dB20 0 rfl) rfl rfl ?_
  obtain ⟨T106, X106, e106, st106⟩ := initO X0 hx hZ hown (ow hw 15 rfl) (ow hw 16 rfl) (ow hw 17 rfl) e0 (g := (mkF m 1 #[.val (.ref a), .val (.ref b), .val .null, .unset, .unset] [(.ref a)])) rfl (by rw [hml]; rfl) rfl (hb hby (od dB20 1 rfl)) (by decide) (W := 0) (by show 2 * 0 + _ ≤ _; exact Nat.le_of_eq rfl) (by decide)
  refine own_on st106 ?_
  show own_Fin p e below _ (T106.setTop (mkF m 4 #[.val (.ref a), .val (.ref b), .val .null, .unset, .unset] []))
  refine o_aldN X106 H (od dB20 2 rfl) rfl rfl ?_
  refine o_vs (argsL := []) (rest := []) X106 H hml hZ hown (ow hw 100 rfl) (ow hw 101 rfl) (ow hw 103 rfl) (ow hw 102 rfl) (backOf (W := 0) (rm21 l Z a0 hw [] b tb h0 n0 (by exact Z0) Fv) hZ (ow hw 104 rfl) (ow hw 80 rfl) (by decide) (by decide)) (by decide) Eb e106 pd_8 (od dB20 3 rfl) rfl rfl rfl rfl rfl (by decide) (by decide) (o_pk (fun _ _ _ q => q) N0 fun T107 Lc107 X107 N107 e107 => ?_)
  refine o_astN X107 H (od dB20 4 rfl) (L' := #[.val (.ref a), .val (.ref b), .val .null, .val (.ref tb), .unset]) rfl rfl ?_
  refine o_aldN X107 H (od dB20 5 rfl) rfl rfl ?_
  refine o_vc (argsL := []) (rest := []) X107 H hml hZ hown (ow hw 105 rfl) (ow hw 106 rfl) (own_nf (a0 := #[]) (mvT hZ (ow hw 103 rfl)) rfl) (ow hw 108 rfl) (ow hw 109 rfl) (backOf (W := 0) (rm22 l Z a0 hw [] b (1 : Int32) h0 n0 (by exact Z0) Eb Fc) hZ (ow hw 110 rfl) (ow hw 72 rfl) (by decide) (by decide)) (by decide) Eb e107 pd_1 (od dB20 6 rfl) rfl rfl rfl rfl rfl (by decide) (by decide) (o_pk (fun _ _ _ q => q) N107 fun T108 Lc108 X108 N108 e108 => ?_)
  refine o_ist X108 H (od dB20 7 rfl) (L' := #[.val (.ref a), .val (.ref b), .val .null, .val (.ref tb), .val (.int (1 : Int32))]) rfl ?_
  refine o_aldN X108 H (od dB20 8 rfl) rfl rfl ?_
  refine o_vs (argsL := []) (rest := []) X108 H hml hZ hown (ow hw 116 rfl) (ow hw 117 rfl) (ow hw 119 rfl) (ow hw 118 rfl) (backOf (W := 0) (rm24 l Z a0 hw [] b z h0 n0 (by exact Z0) hz O SC Fk) hZ (ow hw 120 rfl) (ow hw 80 rfl) (by decide) (by decide)) (by decide) Eb e108 pd_2 (od dB20 9 rfl) rfl rfl rfl rfl rfl (by decide) (by decide) (o_pk (fun _ _ _ q => q) N108 fun T109 Lc109 X109 N109 e109 => ?_)
  refine o_ifN X109 H (od dB20 10 rfl) ((if0 _ _).trans (feq (by decide : ¬ ((1 : Int32) = (0 : Int32)))).1) ?_
  refine o_aldN X109 H (od dB20 11 rfl) rfl rfl ?_
  refine o_ic X109 H (od dB20 12 rfl) (v := 0) rfl ?_
  obtain ⟨T110, h110, X110, e110, W110, st110⟩ := putFN X109 hx hZ hown (ow hw 30 rfl) Via.refl e109 C0 Ea (Or.inr ⟨(ow hw 31 rfl), rfl, hnm⟩) (ow hw 6 rfl) (ty := .byte) (v' := (.int (0 : Int32))) (by decide) rfl (by decide) (g := (mkF m 24 #[.val (.ref a), .val (.ref b), .val .null, .val (.ref tb), .val (.int (1 : Int32))] [(.int (0 : Int32)), (.ref a)])) rfl rfl (hb hby (od dB20 13 rfl))
  have N110 := Fr.snoc X110 N109 ga
  have y111 := (V0.other W110 (Or.inr (slot_ne (Or.inr (ow hw 33 rfl)) (Or.inr (ow hw 31 rfl)) (by decide) (t := (.array .byte)) (t' := .byte) (by decide) (by decide))))
  refine own_on st110 ?_
  show own_Fin p e below _ (T110.setTop (mkF m 27 #[.val (.ref a), .val (.ref b), .val .null, .val (.ref tb), .val (.int (1 : Int32))] []))
  refine o_aldN X110 H (od dB20 14 rfl) rfl rfl ?_
  refine o_aldN X110 H (od dB20 15 rfl) rfl rfl ?_
  refine o_ic X110 H (od dB20 16 rfl) (v := 0) rfl ?_
  refine o_ild X110 H (od dB20 17 rfl) rfl ?_
  refine o_tc (argsL := [(.ref tb), (.int (0 : Int32)), (.int (1 : Int32))]) (rest := [(.ref a)]) X110 H hml hZ hown (ow hw 121 rfl) (ow hw 122 rfl) (ow hw 123 rfl) (ow hw 124 rfl) (backOf (W := 1) (rmCr1 l Z a0 hw [] tb kt d0 h110 n0 (by exact (Nat.le_trans Z0 (Keep.of_wr W110).1)) (At.other W110 (Ne.symm nat))) hZ (ow hw 124 rfl) (ow hw 123 rfl) (by decide) (by decide)) (by decide) e110 pd_7 (od dB20 18 rfl) rfl rfl rfl rfl rfl (by decide) (by decide) fun _ T112 Lc112 X112 hQ112 => ?_
  obtain ⟨x112, kx112, rfl, N112q, K112, gn112, gk112, Aq112⟩ := hQ112
  have ne112_b : b ≠ x112 := Nat.ne_of_lt (Nat.lt_of_lt_of_le (Eb.wr W110).lt gk112)
  have ne112_tb : tb ≠ x112 := Nat.ne_of_lt (Nat.lt_of_lt_of_le (At.other W110 (Ne.symm nat)).lt gk112)
  have ne112_a : a ≠ x112 := Nat.ne_of_lt (Nat.lt_of_lt_of_le (Ea.wr W110).lt gk112)
  have N112 := Fr.app N110 N112q
  show own_Fin p e below _ (T112.setTop (mkF m 35 #[.val (.ref a), .val (.ref b), .val .null, .val (.ref tb), .val (.int (1 : Int32))] [(.ref x112), (.ref a)]))
  obtain ⟨T113, h113, X113, e113, W113, st113⟩ := putF X112 hx hZ hown (host := "") (Or.inl (ow hw 32 rfl)) Via.refl rfl (y111.keep K112 nin0) ((Ea.wr W110).keep K112) (Or.inr ⟨(ow hw 33 rfl), rfl, hnm⟩) (ow hw 6 rfl) (ty := (.array .byte)) (by decide) rfl rfl (g := (mkF m 35 #[.val (.ref a), .val (.ref b), .val .null, .val (.ref tb), .val (.int (1 : Int32))] [(.ref x112), (.ref a)])) rfl rfl (hb hby (od dB20 19 rfl))
  have N113 := Fr.snoc X113 N112 ga
  have y114 := ((((Keep.refl h0 [a]).wr W110 (Or.inl (List.mem_of_getElem? (i := 0) rfl))).trans K112 all0).wr W113 (Or.inl (List.mem_of_getElem? (i := 0) rfl)))
  have y115 := (((C0.same W110).keep K112 nin0).other W113 (Or.inr (slot_ne (Or.inr (ow hw 31 rfl)) (Or.inr (ow hw 33 rfl)) (by decide) (t := .byte) (t' := (.array .byte)) (by decide) (by decide))))
  refine own_on st113 ?_
  show own_Fin p e below _ (T113.setTop (mkF m 38 #[.val (.ref a), .val (.ref b), .val .null, .val (.ref tb), .val (.int (1 : Int32))] []))
  refine o_go X113 H (od dB20 20 rfl) (pc' := 97) (by decide) (by decide) ?_
  exact own_retV X113 hx hlk hret (hb hby (od dB20 50 rfl)) (by show QS21 Z a b z tb kt d0 h0 n0 _ T113.heap _; rw [e113]; exact ⟨x112, kx112, rfl, N113, y114, (((Ea.wr W110).keep K112).wr W113), y115, ((y111.keep K112 nin0).same W113), (Aq112.other W113 (Ne.symm ne112_a))⟩) (by decide) (by decide)
theorem ef_rmS11 (m : MethodId) (x0 : Addr) (x1 : Addr) : entryFrame m #[(.ref x0), (.ref x1)] 2 = mkF m 0 #[.val (.ref x0), .val (.ref x1)] [] := by first | (simp [entryFrame, mkF, argsToLocals, Value.category]; done) | rfl
def QS11 (Z : State) (a : Addr) (b : Addr) (z : Int32) (tb : Addr) (kt : ClassId) (d0 : Int32) (h0 : Heap) (n0 : Nat) (v : Option Value) (h : Heap) (L : List Loc) : Prop := ∃ (x : Addr) (kx : ClassId), v = none ∧ Fr n0 L ∧ Keep h0 h [a] ∧ Exa Z h a "java/lang/String" ∧ Fld Z h a "java/lang/String" "coder" "B" (.int 0) ∧ Fld Z h a "java/lang/String" "value" "[B" (.ref x) ∧ Arv Z h x kx .byte (1 : Int32) [(.int (StrChars.lo8 d0))] (.int 0)
set_option maxRecDepth 65536 in
set_option maxHeartbeats 40000000 in
theorem rmS11 (l : Launch) (Z : State) (a0 : Array Value) (hw : ∀ d ∈ tables_1, d.before a0 Z = true) (ws : List Jvm.Cond) (a : Addr) (b : Addr) (z : Int32) (tb : Addr) (kt : ClassId) (d0 : Int32) (h0 : Heap) (n0 : Nat) (Z0 : n0 ≤ h0.size) (hz : ¬ z = (0 : Int32)) (O : Old Z n0 h0) (SC : Sta Z Z.heap "java/lang/String" "COMPACT_STRINGS" "Z" (.int z)) (Eb : Exa Z h0 b "java/lang/StringBuilder") (Fv : Fld Z h0 b "java/lang/AbstractStringBuilder" "value" "[B" (.ref tb)) (Fc : Fld Z h0 b "java/lang/AbstractStringBuilder" "count" "I" (.int (1 : Int32))) (Fk : Fld Z h0 b "java/lang/AbstractStringBuilder" "coder" "B" (.int (0 : Int32))) (At : Arv Z h0 tb kt .byte (16 : Int32) [(.int (StrChars.lo8 d0)), (.int (0 : Int32)), (.int (0 : Int32)), (.int (0 : Int32)), (.int (0 : Int32)), (.int (0 : Int32)), (.int (0 : Int32)), (.int (0 : Int32)), (.int (0 : Int32)), (.int (0 : Int32)), (.int (0 : Int32)), (.int (0 : Int32)), (.int (0 : Int32)), (.int (0 : Int32)), (.int (0 : Int32)), (.int (0 : Int32))] (.int 0)) (gb : n0 ≤ b) (gt : n0 ≤ tb) (nbt : b ≠ tb) (Ea : Exa Z h0 a "java/lang/String") (V0 : Fld Z h0 a "java/lang/String" "value" "[B" .null) (C0 : Fld Z h0 a "java/lang/String" "coder" "B" (.int (0 : Int32))) (ga : n0 ≤ a) (nab : a ≠ b) (nat : a ≠ tb) :
    own_M l (⟨"java/lang/String", "<init>", "(Ljava/lang/StringBuilder;)V"⟩ : MethodName) jdk_42_method_53_code 2 none ws ({ frames := 4, cells := 1, slots := 1, locals := 65 } : Room) #[(.ref a), (.ref b)] Z h0 (QS11 Z a b z tb kt d0 h0 n0) := by
  refine MetFree.of_bodySF (plainFor_of_name pn_4) hisR ?_
  intro p e s m args below meth cd s₁ Bd hml hP hK
  obtain ⟨rfl, hZ, hh⟩ := hP
  obtain ⟨X0, e0, H, hlk, hown, hret⟩ := own_start (R := ({ frames := 4, cells := 1, slots := 1, locals := 65 } : Room)) Bd hh rfl
  have hx := H.1; have hby := H.2; have N0 := Fr.nil n0
  show own_Fin p e below (own_Ans s (QS11 Z a b z tb kt d0 h0 n0) ({ frames := 4, cells := 1, slots := 1, locals := 65 } : Room).cells ({ frames := 4, cells := 1, slots := 1, locals := 65 } : Room).slots) (s₁.setTop (entryFrame m #[(.ref a), (.ref b)] 2))
  refine own_cast (ef_rmS11 m a b) ?_
  show own_Fin p e below _ (s₁.setTop (mkF m 0 #[.val (.ref a), .val (.ref b)] []))
  refine o_aldN X0 H (od dB19 0 rfl) rfl rfl ?_
  refine o_aldN X0 H (od dB19 1 rfl) rfl rfl ?_
  refine o_nul X0 H (od dB19 2 rfl) ?_
  refine o_sc (b := a) (argsL := [(.ref b), .null]) (rest := []) X0 H hml hZ hown (ow hw 97 rfl) (ow hw 98 rfl) (ow hw 99 rfl) (backOf (W := 0) (rmS21 l Z a0 hw [] a b z tb kt d0 h0 n0 (by exact Z0) hz O SC Eb Fv Fc Fk At gb gt nbt Ea V0 C0 ga nab nat) hZ (ow hw 99 rfl) (ow hw 7 rfl) (by decide) (by decide)) rfl (by decide) e0 pd_9 (od dB19 3 rfl) rfl rfl rfl rfl rfl (by decide) (by decide) fun _ T116 Lc116 X116 hQ116 => ?_
  obtain ⟨x116, kx116, rfl, N116q, K116, Eq116, Cq116, Vq116, Aq116⟩ := hQ116
  have N116 := Fr.app N0 N116q
  show own_Fin p e below _ (T116.setTop (mkF m 6 #[.val (.ref a), .val (.ref b)] []))
  exact own_retV X116 hx hlk hret (hb hby (od dB19 4 rfl)) (by show QS11 Z a b z tb kt d0 h0 n0 _ T116.heap _; exact ⟨x116, kx116, rfl, N116, ((Keep.refl h0 [a]).trans K116 (allS (Or.inl (List.mem_of_getElem? (i := 0) rfl)) all0)), Eq116, Cq116, Vq116, Aq116⟩) (by decide) (by decide)
theorem ef_rmTs1 (m : MethodId) (x0 : Addr) : entryFrame m #[(.ref x0)] 1 = mkF m 0 #[.val (.ref x0)] [] := by first | (simp [entryFrame, mkF, argsToLocals, Value.category]; done) | rfl
def QTs1 (Z : State) (b : Addr) (z : Int32) (tb : Addr) (kt : ClassId) (d0 : Int32) (h0 : Heap) (n0 : Nat) (v : Option Value) (h : Heap) (L : List Loc) : Prop := ∃ (y x : Addr) (kx : ClassId), v = some (.ref y) ∧ Fr n0 L ∧ Keep h0 h [] ∧ h0.size ≤ y ∧ Exa Z h y "java/lang/String" ∧ Fld Z h y "java/lang/String" "coder" "B" (.int 0) ∧ Fld Z h y "java/lang/String" "value" "[B" (.ref x) ∧ Arv Z h x kx .byte (1 : Int32) [(.int (StrChars.lo8 d0))] (.int 0)
set_option maxRecDepth 65536 in
set_option maxHeartbeats 40000000 in
theorem rmTs1 (l : Launch) (Z : State) (a0 : Array Value) (hw : ∀ d ∈ tables_1, d.before a0 Z = true) (ws : List Jvm.Cond) (b : Addr) (z : Int32) (tb : Addr) (kt : ClassId) (d0 : Int32) (h0 : Heap) (n0 : Nat) (Z0 : n0 ≤ h0.size) (hz : ¬ z = (0 : Int32)) (O : Old Z n0 h0) (SC : Sta Z Z.heap "java/lang/String" "COMPACT_STRINGS" "Z" (.int z)) (Eb : Exa Z h0 b "java/lang/StringBuilder") (Fv : Fld Z h0 b "java/lang/AbstractStringBuilder" "value" "[B" (.ref tb)) (Fc : Fld Z h0 b "java/lang/AbstractStringBuilder" "count" "I" (.int (1 : Int32))) (Fk : Fld Z h0 b "java/lang/AbstractStringBuilder" "coder" "B" (.int (0 : Int32))) (At : Arv Z h0 tb kt .byte (16 : Int32) [(.int (StrChars.lo8 d0)), (.int (0 : Int32)), (.int (0 : Int32)), (.int (0 : Int32)), (.int (0 : Int32)), (.int (0 : Int32)), (.int (0 : Int32)), (.int (0 : Int32)), (.int (0 : Int32)), (.int (0 : Int32)), (.int (0 : Int32)), (.int (0 : Int32)), (.int (0 : Int32)), (.int (0 : Int32)), (.int (0 : Int32)), (.int (0 : Int32))] (.int 0)) (gb : n0 ≤ b) (gt : n0 ≤ tb) (nbt : b ≠ tb) :
    own_M l (⟨"java/lang/StringBuilder", "toString", "()Ljava/lang/String;"⟩ : MethodName) jdk_67_method_42_code 1 (some (.object "java/lang/String")) ws ({ frames := 5, cells := 2, slots := 5, locals := 79 } : Room) #[(.ref b)] Z h0 (QTs1 Z b z tb kt d0 h0 n0) := by
  refine MetFree.of_bodySF (plainFor_of_name pn_1) hisR ?_
  intro p e s m args below meth cd s₁ Bd hml hP hK
  obtain ⟨rfl, hZ, hh⟩ := hP
  obtain ⟨X0, e0, H, hlk, hown, hret⟩ := own_start (R := ({ frames := 5, cells := 2, slots := 5, locals := 79 } : Room)) Bd hh rfl
  have hx := H.1; have hby := H.2; have N0 := Fr.nil n0
  show own_Fin p e below (own_Ans s (QTs1 Z b z tb kt d0 h0 n0) ({ frames := 5, cells := 2, slots := 5, locals := 79 } : Room).cells ({ frames := 5, cells := 2, slots := 5, locals := 79 } : Room).slots) (s₁.setTop (entryFrame m #[(.ref b)] 1))
  refine own_cast (ef_rmTs1 m b) ?_
  show own_Fin p e below _ (s₁.setTop (mkF m 0 #[.val (.ref b)] []))
  obtain ⟨T117, h117, X117, e117, E117, A117, D117, -, st117⟩ := newO X0 hx hZ hown (ow hw 93 rfl) (ow hw 6 rfl) (ow hw 7 rfl) e0 (g := (mkF m 0 #[.val (.ref b)] [])) rfl (hb hby (od dB18 0 rfl)) (by decide) (by decide)
  obtain ⟨b117, g117⟩ : ∃ z, z = h0.size := ⟨_, rfl⟩
  rw [← g117] at A117 D117 st117
  have ne117_b : b ≠ b117 := own_ne_of (Z := Z) Eb.lt g117
  have ne117_tb : tb ≠ b117 := own_ne_of (Z := Z) At.lt g117
  have gn117 : n0 ≤ b117 := Nat.le_trans Z0 (Nat.le_of_eq g117.symm)
  have gk117 : h0.size ≤ b117 := Nat.le_trans (Keep.refl h0 []).1 (Nat.le_of_eq g117.symm)
  have F117_coder : Fld Z h117 b117 "java/lang/String" "coder" "B" (.int (0 : Int32)) := D117 (Or.inr (ow hw 31 rfl)) (ty := .byte) (by decide)
  have F117_value : Fld Z h117 b117 "java/lang/String" "value" "[B" .null := D117 (Or.inr (ow hw 33 rfl)) (ty := (.array .byte)) (by decide)
  refine own_on st117 ?_
  show own_Fin p e below _ (T117.setTop (mkF m 3 #[.val (.ref b)] [(.ref b117)]))
  refine o_dup X117 H (od dB18 1 rfl) rfl ?_
  refine o_aldN X117 H (od dB18 2 rfl) rfl rfl ?_
  refine o_sc (b := b117) (argsL := [(.ref b)]) (rest := [(.ref b117)]) X117 H hml hZ hown (ow hw 94 rfl) (ow hw 95 rfl) (ow hw 96 rfl) (backOf (W := 1) (rmS11 l Z a0 hw [] b117 b z tb kt d0 h117 n0 (by exact (Nat.le_trans Z0 E117.1)) hz (O.ext E117) SC (Eb.ext E117) (Fv.ext E117) (Fc.ext E117) (Fk.ext E117) (At.ext E117) gb gt nbt A117 F117_value F117_coder gn117 (Ne.symm ne117_b) (Ne.symm ne117_tb)) hZ (ow hw 96 rfl) (ow hw 7 rfl) (by decide) (by decide)) rfl (by decide) e117 pd_10 (od dB18 3 rfl) rfl rfl rfl rfl rfl (by decide) (by decide) fun _ T118 Lc118 X118 hQ118 => ?_
  obtain ⟨x118, kx118, rfl, N118q, K118, Eq118, Cq118, Vq118, Aq118⟩ := hQ118
  have N118 := Fr.app N0 N118q
  show own_Fin p e below _ (T118.setTop (mkF m 8 #[.val (.ref b)] [(.ref b117)]))
  exact own_ret (t := (.object "java/lang/String")) X118 hx hlk hret rfl (Or.inr (Or.inr (Or.inr (Or.inr ⟨rfl, rfl, rfl⟩)))) (hb hby (od dB18 4 rfl)) (by show QTs1 Z b z tb kt d0 h0 n0 _ T118.heap _; exact ⟨b117, x118, kx118, rfl, N118, (((Keep.refl h0 []).ext E117).trans K118 (allS (Or.inr gk117) all0)), gk117, Eq118, Cq118, Vq118, Aq118⟩) (by decide) (by decide)
theorem ef_rmS22 (m : MethodId) (x0 : Addr) (x1 : Addr) : entryFrame m #[(.ref x0), (.ref x1), .null] 5 = mkF m 0 #[.val (.ref x0), .val (.ref x1), .val .null, .unset, .unset] [] := by first | (simp [entryFrame, mkF, argsToLocals, Value.category]; done) | rfl
def QS22 (Z : State) (a : Addr) (b : Addr) (z : Int32) (tb : Addr) (kt : ClassId) (d0 : Int32) (d1 : Int32) (h0 : Heap) (n0 : Nat) (v : Option Value) (h : Heap) (L : List Loc) : Prop := ∃ (x : Addr) (kx : ClassId), v = none ∧ Fr n0 L ∧ Keep h0 h [a] ∧ Exa Z h a "java/lang/String" ∧ Fld Z h a "java/lang/String" "coder" "B" (.int 0) ∧ Fld Z h a "java/lang/String" "value" "[B" (.ref x) ∧ Arv Z h x kx .byte (2 : Int32) [(.int (StrChars.lo8 d0)), (.int (StrChars.lo8 d1))] (.int 0)
set_option maxRecDepth 65536 in
set_option maxHeartbeats 40000000 in
theorem rmS22 (l : Launch) (Z : State) (a0 : Array Value) (hw : ∀ d ∈ tables_1, d.before a0 Z = true) (ws : List Jvm.Cond) (a : Addr) (b : Addr) (z : Int32) (tb : Addr) (kt : ClassId) (d0 : Int32) (d1 : Int32) (h0 : Heap) (n0 : Nat) (Z0 : n0 ≤ h0.size) (hz : ¬ z = (0 : Int32)) (O : Old Z n0 h0) (SC : Sta Z Z.heap "java/lang/String" "COMPACT_STRINGS" "Z" (.int z)) (Eb : Exa Z h0 b "java/lang/StringBuilder") (Fv : Fld Z h0 b "java/lang/AbstractStringBuilder" "value" "[B" (.ref tb)) (Fc : Fld Z h0 b "java/lang/AbstractStringBuilder" "count" "I" (.int (2 : Int32))) (Fk : Fld Z h0 b "java/lang/AbstractStringBuilder" "coder" "B" (.int (0 : Int32))) (At : Arv Z h0 tb kt .byte (16 : Int32) [(.int (StrChars.lo8 d0)), (.int (StrChars.lo8 d1)), (.int (0 : Int32)), (.int (0 : Int32)), (.int (0 : Int32)), (.int (0 : Int32)), (.int (0 : Int32)), (.int (0 : Int32)), (.int (0 : Int32)), (.int (0 : Int32)), (.int (0 : Int32)), (.int (0 : Int32)), (.int (0 : Int32)), (.int (0 : Int32)), (.int (0 : Int32)), (.int (0 : Int32))] (.int 0)) (gb : n0 ≤ b) (gt : n0 ≤ tb) (nbt : b ≠ tb) (Ea : Exa Z h0 a "java/lang/String") (V0 : Fld Z h0 a "java/lang/String" "value" "[B" .null) (C0 : Fld Z h0 a "java/lang/String" "coder" "B" (.int (0 : Int32))) (ga : n0 ≤ a) (nab : a ≠ b) (nat : a ≠ tb) :
    own_M l (⟨"java/lang/String", "<init>", "(Ljava/lang/AbstractStringBuilder;Ljava/lang/Void;)V"⟩ : MethodName) jdk_42_method_150_code 5 none ws ({ frames := 3, cells := 1, slots := 2, locals := 49 } : Room) #[(.ref a), (.ref b), .null] Z h0 (QS22 Z a b z tb kt d0 d1 h0 n0) := by
  refine MetFree.of_bodySF (plainFor_of_name pn_4) hisR ?_
  intro p e s m args below meth cd s₁ Bd hml hP hK
  obtain ⟨rfl, hZ, hh⟩ := hP
  obtain ⟨X0, e0, H, hlk, hown, hret⟩ := own_start (R := ({ frames := 3, cells := 1, slots := 2, locals := 49 } : Room)) Bd hh rfl
  have hx := H.1; have hby := H.2; have N0 := Fr.nil n0
  have hnm := (name_of_methodNamed Bd.named Bd.method).1
  show own_Fin p e below (own_Ans s (QS22 Z a b z tb kt d0 d1 h0 n0) ({ frames := 3, cells := 1, slots := 2, locals := 49 } : Room).cells ({ frames := 3, cells := 1, slots := 2, locals := 49 } : Room).slots) (s₁.setTop (entryFrame m #[(.ref a), (.ref b), .null] 5))
  refine own_cast (ef_rmS22 m a b) ?_
  show own_Fin p e below _ (s₁.setTop (mkF m 0 #[.val (.ref a), .val (.ref b), .val .null, .unset, .unset] []))
  refine o_aldN X0 H (od dB20 0 rfl) rfl rfl ?_
  obtain ⟨T119, X119, e119, st119⟩ := initO X0 hx hZ hown (ow hw 15 rfl) (ow hw 16 rfl) (ow hw 17 rfl) e0 (g := (mkF m 1 #[.val (.ref a), .val (.ref b), .val .null, .unset, .unset] [(.ref a)])) rfl (by rw [hml]; rfl) rfl (hb hby (od dB20 1 rfl)) (by decide) (W := 0) (by show 2 * 0 + _ ≤ _; exact Nat.le_of_eq rfl) (by decide)
  refine own_on st119 ?_
  show own_Fin p e below _ (T119.setTop (mkF m 4 #[.val (.ref a), .val (.ref b), .val .null, .unset, .unset] []))
  refine o_aldN X119 H (od dB20 2 rfl) rfl rfl ?_
  refine o_vs (argsL := []) (rest := []) X119 H hml hZ hown (ow hw 100 rfl) (ow hw 101 rfl) (ow hw 103 rfl) (ow hw 102 rfl) (backOf (W := 0) (rm21 l Z a0 hw [] b tb h0 n0 (by exact Z0) Fv) hZ (ow hw 104 rfl) (ow hw 80 rfl) (by decide) (by decide)) (by decide) Eb e119 pd_8 (od dB20 3 rfl) rfl rfl rfl rfl rfl (by decide) (by decide) (o_pk (fun _ _ _ q => q) N0 fun T120 Lc120 X120 N120 e120 => ?_)
  refine o_astN X120 H (od dB20 4 rfl) (L' := #[.val (.ref a), .val (.ref b), .val .null, .val (.ref tb), .unset]) rfl rfl ?_
  refine o_aldN X120 H (od dB20 5 rfl) rfl rfl ?_
  refine o_vc (argsL := []) (rest := []) X120 H hml hZ hown (ow hw 105 rfl) (ow hw 106 rfl) (own_nf (a0 := #[]) (mvT hZ (ow hw 103 rfl)) rfl) (ow hw 108 rfl) (ow hw 109 rfl) (backOf (W := 0) (rm22 l Z a0 hw [] b (2 : Int32) h0 n0 (by exact Z0) Eb Fc) hZ (ow hw 110 rfl) (ow hw 72 rfl) (by decide) (by decide)) (by decide) Eb e120 pd_1 (od dB20 6 rfl) rfl rfl rfl rfl rfl (by decide) (by decide) (o_pk (fun _ _ _ q => q) N120 fun T121 Lc121 X121 N121 e121 => ?_)
  refine o_ist X121 H (od dB20 7 rfl) (L' := #[.val (.ref a), .val (.ref b), .val .null, .val (.ref tb), .val (.int (2 : Int32))]) rfl ?_
  refine o_aldN X121 H (od dB20 8 rfl) rfl rfl ?_
  refine o_vs (argsL := []) (rest := []) X121 H hml hZ hown (ow hw 116 rfl) (ow hw 117 rfl) (ow hw 119 rfl) (ow hw 118 rfl) (backOf (W := 0) (rm24 l Z a0 hw [] b z h0 n0 (by exact Z0) hz O SC Fk) hZ (ow hw 120 rfl) (ow hw 80 rfl) (by decide) (by decide)) (by decide) Eb e121 pd_2 (od dB20 9 rfl) rfl rfl rfl rfl rfl (by decide) (by decide) (o_pk (fun _ _ _ q => q) N121 fun T122 Lc122 X122 N122 e122 => ?_)
  refine o_ifN X122 H (od dB20 10 rfl) ((if0 _ _).trans (feq (by decide : ¬ ((1 : Int32) = (0 : Int32)))).1) ?_
  refine o_aldN X122 H (od dB20 11 rfl) rfl rfl ?_
  refine o_ic X122 H (od dB20 12 rfl) (v := 0) rfl ?_
  obtain ⟨T123, h123, X123, e123, W123, st123⟩ := putFN X122 hx hZ hown (ow hw 30 rfl) Via.refl e122 C0 Ea (Or.inr ⟨(ow hw 31 rfl), rfl, hnm⟩) (ow hw 6 rfl) (ty := .byte) (v' := (.int (0 : Int32))) (by decide) rfl (by decide) (g := (mkF m 24 #[.val (.ref a), .val (.ref b), .val .null, .val (.ref tb), .val (.int (2 : Int32))] [(.int (0 : Int32)), (.ref a)])) rfl rfl (hb hby (od dB20 13 rfl))
  have N123 := Fr.snoc X123 N122 ga
  have y124 := (V0.other W123 (Or.inr (slot_ne (Or.inr (ow hw 33 rfl)) (Or.inr (ow hw 31 rfl)) (by decide) (t := (.array .byte)) (t' := .byte) (by decide) (by decide))))
  refine own_on st123 ?_
  show own_Fin p e below _ (T123.setTop (mkF m 27 #[.val (.ref a), .val (.ref b), .val .null, .val (.ref tb), .val (.int (2 : Int32))] []))
  refine o_aldN X123 H (od dB20 14 rfl) rfl rfl ?_
  refine o_aldN X123 H (od dB20 15 rfl) rfl rfl ?_
  refine o_ic X123 H (od dB20 16 rfl) (v := 0) rfl ?_
  refine o_ild X123 H (od dB20 17 rfl) rfl ?_
  refine o_tc (argsL := [(.ref tb), (.int (0 : Int32)), (.int (2 : Int32))]) (rest := [(.ref a)]) X123 H hml hZ hown (ow hw 121 rfl) (ow hw 122 rfl) (ow hw 123 rfl) (ow hw 124 rfl) (backOf (W := 1) (rmCr2 l Z a0 hw [] tb kt d0 d1 h123 n0 (by exact (Nat.le_trans Z0 (Keep.of_wr W123).1)) (At.other W123 (Ne.symm nat))) hZ (ow hw 124 rfl) (ow hw 123 rfl) (by decide) (by decide)) (by decide) e123 pd_7 (od dB20 18 rfl) rfl rfl rfl rfl rfl (by decide) (by decide) fun _ T125 Lc125 X125 hQ125 => ?_
  obtain ⟨x125, kx125, rfl, N125q, K125, gn125, gk125, Aq125⟩ := hQ125
  have ne125_b : b ≠ x125 := Nat.ne_of_lt (Nat.lt_of_lt_of_le (Eb.wr W123).lt gk125)
  have ne125_tb : tb ≠ x125 := Nat.ne_of_lt (Nat.lt_of_lt_of_le (At.other W123 (Ne.symm nat)).lt gk125)
  have ne125_a : a ≠ x125 := Nat.ne_of_lt (Nat.lt_of_lt_of_le (Ea.wr W123).lt gk125)
  have N125 := Fr.app N123 N125q
  show own_Fin p e below _ (T125.setTop (mkF m 35 #[.val (.ref a), .val (.ref b), .val .null, .val (.ref tb), .val (.int (2 : Int32))] [(.ref x125), (.ref a)]))
  obtain ⟨T126, h126, X126, e126, W126, st126⟩ := putF X125 hx hZ hown (host := "") (Or.inl (ow hw 32 rfl)) Via.refl rfl (y124.keep K125 nin0) ((Ea.wr W123).keep K125) (Or.inr ⟨(ow hw 33 rfl), rfl, hnm⟩) (ow hw 6 rfl) (ty := (.array .byte)) (by decide) rfl rfl (g := (mkF m 35 #[.val (.ref a), .val (.ref b), .val .null, .val (.ref tb), .val (.int (2 : Int32))] [(.ref x125), (.ref a)])) rfl rfl (hb hby (od dB20 19 rfl))
  have N126 := Fr.snoc X126 N125 ga
  have y127 := ((((Keep.refl h0 [a]).wr W123 (Or.inl (List.mem_of_getElem? (i := 0) rfl))).trans K125 all0).wr W126 (Or.inl (List.mem_of_getElem? (i := 0) rfl)))
  have y128 := (((C0.same W123).keep K125 nin0).other W126 (Or.inr (slot_ne (Or.inr (ow hw 31 rfl)) (Or.inr (ow hw 33 rfl)) (by decide) (t := .byte) (t' := (.array .byte)) (by decide) (by decide))))
  refine own_on st126 ?_
  show own_Fin p e below _ (T126.setTop (mkF m 38 #[.val (.ref a), .val (.ref b), .val .null, .val (.ref tb), .val (.int (2 : Int32))] []))
  refine o_go X126 H (od dB20 20 rfl) (pc' := 97) (by decide) (by decide) ?_
  exact own_retV X126 hx hlk hret (hb hby (od dB20 50 rfl)) (by show QS22 Z a b z tb kt d0 d1 h0 n0 _ T126.heap _; rw [e126]; exact ⟨x125, kx125, rfl, N126, y127, (((Ea.wr W123).keep K125).wr W126), y128, ((y124.keep K125 nin0).same W126), (Aq125.other W126 (Ne.symm ne125_a))⟩) (by decide) (by decide)
theorem ef_rmS12 (m : MethodId) (x0 : Addr) (x1 : Addr) : entryFrame m #[(.ref x0), (.ref x1)] 2 = mkF m 0 #[.val (.ref x0), .val (.ref x1)] [] := by first | (simp [entryFrame, mkF, argsToLocals, Value.category]; done) | rfl
def QS12 (Z : State) (a : Addr) (b : Addr) (z : Int32) (tb : Addr) (kt : ClassId) (d0 : Int32) (d1 : Int32) (h0 : Heap) (n0 : Nat) (v : Option Value) (h : Heap) (L : List Loc) : Prop := ∃ (x : Addr) (kx : ClassId), v = none ∧ Fr n0 L ∧ Keep h0 h [a] ∧ Exa Z h a "java/lang/String" ∧ Fld Z h a "java/lang/String" "coder" "B" (.int 0) ∧ Fld Z h a "java/lang/String" "value" "[B" (.ref x) ∧ Arv Z h x kx .byte (2 : Int32) [(.int (StrChars.lo8 d0)), (.int (StrChars.lo8 d1))] (.int 0)
set_option maxRecDepth 65536 in
set_option maxHeartbeats 40000000 in
theorem rmS12 (l : Launch) (Z : State) (a0 : Array Value) (hw : ∀ d ∈ tables_1, d.before a0 Z = true) (ws : List Jvm.Cond) (a : Addr) (b : Addr) (z : Int32) (tb : Addr) (kt : ClassId) (d0 : Int32) (d1 : Int32) (h0 : Heap) (n0 : Nat) (Z0 : n0 ≤ h0.size) (hz : ¬ z = (0 : Int32)) (O : Old Z n0 h0) (SC : Sta Z Z.heap "java/lang/String" "COMPACT_STRINGS" "Z" (.int z)) (Eb : Exa Z h0 b "java/lang/StringBuilder") (Fv : Fld Z h0 b "java/lang/AbstractStringBuilder" "value" "[B" (.ref tb)) (Fc : Fld Z h0 b "java/lang/AbstractStringBuilder" "count" "I" (.int (2 : Int32))) (Fk : Fld Z h0 b "java/lang/AbstractStringBuilder" "coder" "B" (.int (0 : Int32))) (At : Arv Z h0 tb kt .byte (16 : Int32) [(.int (StrChars.lo8 d0)), (.int (StrChars.lo8 d1)), (.int (0 : Int32)), (.int (0 : Int32)), (.int (0 : Int32)), (.int (0 : Int32)), (.int (0 : Int32)), (.int (0 : Int32)), (.int (0 : Int32)), (.int (0 : Int32)), (.int (0 : Int32)), (.int (0 : Int32)), (.int (0 : Int32)), (.int (0 : Int32)), (.int (0 : Int32)), (.int (0 : Int32))] (.int 0)) (gb : n0 ≤ b) (gt : n0 ≤ tb) (nbt : b ≠ tb) (Ea : Exa Z h0 a "java/lang/String") (V0 : Fld Z h0 a "java/lang/String" "value" "[B" .null) (C0 : Fld Z h0 a "java/lang/String" "coder" "B" (.int (0 : Int32))) (ga : n0 ≤ a) (nab : a ≠ b) (nat : a ≠ tb) :
    own_M l (⟨"java/lang/String", "<init>", "(Ljava/lang/StringBuilder;)V"⟩ : MethodName) jdk_42_method_53_code 2 none ws ({ frames := 4, cells := 1, slots := 2, locals := 65 } : Room) #[(.ref a), (.ref b)] Z h0 (QS12 Z a b z tb kt d0 d1 h0 n0) := by
  refine MetFree.of_bodySF (plainFor_of_name pn_4) hisR ?_
  intro p e s m args below meth cd s₁ Bd hml hP hK
  obtain ⟨rfl, hZ, hh⟩ := hP
  obtain ⟨X0, e0, H, hlk, hown, hret⟩ := own_start (R := ({ frames := 4, cells := 1, slots := 2, locals := 65 } : Room)) Bd hh rfl
  have hx := H.1; have hby := H.2; have N0 := Fr.nil n0
  show own_Fin p e below (own_Ans s (QS12 Z a b z tb kt d0 d1 h0 n0) ({ frames := 4, cells := 1, slots := 2, locals := 65 } : Room).cells ({ frames := 4, cells := 1, slots := 2, locals := 65 } : Room).slots) (s₁.setTop (entryFrame m #[(.ref a), (.ref b)] 2))
  refine own_cast (ef_rmS12 m a b) ?_
  show own_Fin p e below _ (s₁.setTop (mkF m 0 #[.val (.ref a), .val (.ref b)] []))
  refine o_aldN X0 H (od dB19 0 rfl) rfl rfl ?_
  refine o_aldN X0 H (od dB19 1 rfl) rfl rfl ?_
  refine o_nul X0 H (od dB19 2 rfl) ?_
  refine o_sc (b := a) (argsL := [(.ref b), .null]) (rest := []) X0 H hml hZ hown (ow hw 97 rfl) (ow hw 98 rfl) (ow hw 99 rfl) (backOf (W := 0) (rmS22 l Z a0 hw [] a b z tb kt d0 d1 h0 n0 (by exact Z0) hz O SC Eb Fv Fc Fk At gb gt nbt Ea V0 C0 ga nab nat) hZ (ow hw 99 rfl) (ow hw 7 rfl) (by decide) (by decide)) rfl (by decide) e0 pd_9 (od dB19 3 rfl) rfl rfl rfl rfl rfl (by decide) (by decide) fun _ T129 Lc129 X129 hQ129 => ?_
  obtain ⟨x129, kx129, rfl, N129q, K129, Eq129, Cq129, Vq129, Aq129⟩ := hQ129
  have N129 := Fr.app N0 N129q
  show own_Fin p e below _ (T129.setTop (mkF m 6 #[.val (.ref a), .val (.ref b)] []))
  exact own_retV X129 hx hlk hret (hb hby (od dB19 4 rfl)) (by show QS12 Z a b z tb kt d0 d1 h0 n0 _ T129.heap _; exact ⟨x129, kx129, rfl, N129, ((Keep.refl h0 [a]).trans K129 (allS (Or.inl (List.mem_of_getElem? (i := 0) rfl)) all0)), Eq129, Cq129, Vq129, Aq129⟩) (by decide) (by decide)
theorem ef_rmTs2 (m : MethodId) (x0 : Addr) : entryFrame m #[(.ref x0)] 1 = mkF m 0 #[.val (.ref x0)] [] := by first | (simp [entryFrame, mkF, argsToLocals, Value.category]; done) | rfl
def QTs2 (Z : State) (b : Addr) (z : Int32) (tb : Addr) (kt : ClassId) (d0 : Int32) (d1 : Int32) (h0 : Heap) (n0 : Nat) (v : Option Value) (h : Heap) (L : List Loc) : Prop := ∃ (y x : Addr) (kx : ClassId), v = some (.ref y) ∧ Fr n0 L ∧ Keep h0 h [] ∧ h0.size ≤ y ∧ Exa Z h y "java/lang/String" ∧ Fld Z h y "java/lang/String" "coder" "B" (.int 0) ∧ Fld Z h y "java/lang/String" "value" "[B" (.ref x) ∧ Arv Z h x kx .byte (2 : Int32) [(.int (StrChars.lo8 d0)), (.int (StrChars.lo8 d1))] (.int 0)
set_option maxRecDepth 65536 in
set_option maxHeartbeats 40000000 in
theorem rmTs2 (l : Launch) (Z : State) (a0 : Array Value) (hw : ∀ d ∈ tables_1, d.before a0 Z = true) (ws : List Jvm.Cond) (b : Addr) (z : Int32) (tb : Addr) (kt : ClassId) (d0 : Int32) (d1 : Int32) (h0 : Heap) (n0 : Nat) (Z0 : n0 ≤ h0.size) (hz : ¬ z = (0 : Int32)) (O : Old Z n0 h0) (SC : Sta Z Z.heap "java/lang/String" "COMPACT_STRINGS" "Z" (.int z)) (Eb : Exa Z h0 b "java/lang/StringBuilder") (Fv : Fld Z h0 b "java/lang/AbstractStringBuilder" "value" "[B" (.ref tb)) (Fc : Fld Z h0 b "java/lang/AbstractStringBuilder" "count" "I" (.int (2 : Int32))) (Fk : Fld Z h0 b "java/lang/AbstractStringBuilder" "coder" "B" (.int (0 : Int32))) (At : Arv Z h0 tb kt .byte (16 : Int32) [(.int (StrChars.lo8 d0)), (.int (StrChars.lo8 d1)), (.int (0 : Int32)), (.int (0 : Int32)), (.int (0 : Int32)), (.int (0 : Int32)), (.int (0 : Int32)), (.int (0 : Int32)), (.int (0 : Int32)), (.int (0 : Int32)), (.int (0 : Int32)), (.int (0 : Int32)), (.int (0 : Int32)), (.int (0 : Int32)), (.int (0 : Int32)), (.int (0 : Int32))] (.int 0)) (gb : n0 ≤ b) (gt : n0 ≤ tb) (nbt : b ≠ tb) :
    own_M l (⟨"java/lang/StringBuilder", "toString", "()Ljava/lang/String;"⟩ : MethodName) jdk_67_method_42_code 1 (some (.object "java/lang/String")) ws ({ frames := 5, cells := 2, slots := 6, locals := 79 } : Room) #[(.ref b)] Z h0 (QTs2 Z b z tb kt d0 d1 h0 n0) := by
  refine MetFree.of_bodySF (plainFor_of_name pn_1) hisR ?_
  intro p e s m args below meth cd s₁ Bd hml hP hK
  obtain ⟨rfl, hZ, hh⟩ := hP
  obtain ⟨X0, e0, H, hlk, hown, hret⟩ := own_start (R := ({ frames := 5, cells := 2, slots := 6, locals := 79 } : Room)) Bd hh rfl
  have hx := H.1; have hby := H.2; have N0 := Fr.nil n0
  show own_Fin p e below (own_Ans s (QTs2 Z b z tb kt d0 d1 h0 n0) ({ frames := 5, cells := 2, slots := 6, locals := 79 } : Room).cells ({ frames := 5, cells := 2, slots := 6, locals := 79 } : Room).slots) (s₁.setTop (entryFrame m #[(.ref b)] 1))
  refine own_cast (ef_rmTs2 m b) ?_
  show own_Fin p e below _ (s₁.setTop (mkF m 0 #[.val (.ref b)] []))
  obtain ⟨T130, h130, X130, e130, E130, A130, D130, -, st130⟩ := newO X0 hx hZ hown (ow hw 93 rfl) (ow hw 6 rfl) (ow hw 7 rfl) e0 (g := (mkF m 0 #[.val (.ref b)] [])) rfl (hb hby (od dB18 0 rfl)) (by decide) (by decide)
  obtain ⟨b130, g130⟩ : ∃ z, z = h0.size := ⟨_, rfl⟩
  rw [← g130] at A130 D130 st130
  have ne130_b : b ≠ b130 := own_ne_of (Z := Z) Eb.lt g130
  have ne130_tb : tb ≠ b130 := own_ne_of (Z := Z) At.lt g130
  have gn130 : n0 ≤ b130 := Nat.le_trans Z0 (Nat.le_of_eq g130.symm)
  have gk130 : h0.size ≤ b130 := Nat.le_trans (Keep.refl h0 []).1 (Nat.le_of_eq g130.symm)
  have F130_coder : Fld Z h130 b130 "java/lang/String" "coder" "B" (.int (0 : Int32)) := D130 (Or.inr (ow hw 31 rfl)) (ty := .byte) (by decide)
  have F130_value : Fld Z h130 b130 "java/lang/String" "value" "[B" .null := D130 (Or.inr (ow hw 33 rfl)) (ty := (.array .byte)) (by decide)
  refine own_on st130 ?_
  show own_Fin p e below _ (T130.setTop (mkF m 3 #[.val (.ref b)] [(.ref b130)]))
  refine o_dup X130 H (od dB18 1 rfl) rfl ?_
  refine o_aldN X130 H (od dB18 2 rfl) rfl rfl ?_
  refine o_sc (b := b130) (argsL := [(.ref b)]) (rest := [(.ref b130)]) X130 H hml hZ hown (ow hw 94 rfl) (ow hw 95 rfl) (ow hw 96 rfl) (backOf (W := 1) (rmS12 l Z a0 hw [] b130 b z tb kt d0 d1 h130 n0 (by exact (Nat.le_trans Z0 E130.1)) hz (O.ext E130) SC (Eb.ext E130) (Fv.ext E130) (Fc.ext E130) (Fk.ext E130) (At.ext E130) gb gt nbt A130 F130_value F130_coder gn130 (Ne.symm ne130_b) (Ne.symm ne130_tb)) hZ (ow hw 96 rfl) (ow hw 7 rfl) (by decide) (by decide)) rfl (by decide) e130 pd_10 (od dB18 3 rfl) rfl rfl rfl rfl rfl (by decide) (by decide) fun _ T131 Lc131 X131 hQ131 => ?_
  obtain ⟨x131, kx131, rfl, N131q, K131, Eq131, Cq131, Vq131, Aq131⟩ := hQ131
  have N131 := Fr.app N0 N131q
  show own_Fin p e below _ (T131.setTop (mkF m 8 #[.val (.ref b)] [(.ref b130)]))
  exact own_ret (t := (.object "java/lang/String")) X131 hx hlk hret rfl (Or.inr (Or.inr (Or.inr (Or.inr ⟨rfl, rfl, rfl⟩)))) (hb hby (od dB18 4 rfl)) (by show QTs2 Z b z tb kt d0 d1 h0 n0 _ T131.heap _; exact ⟨b130, x131, kx131, rfl, N131, (((Keep.refl h0 []).ext E130).trans K131 (allS (Or.inr gk130) all0)), gk130, Eq131, Cq131, Vq131, Aq131⟩) (by decide) (by decide)
theorem ef_rmS23 (m : MethodId) (x0 : Addr) (x1 : Addr) : entryFrame m #[(.ref x0), (.ref x1), .null] 5 = mkF m 0 #[.val (.ref x0), .val (.ref x1), .val .null, .unset, .unset] [] := by first | (simp [entryFrame, mkF, argsToLocals, Value.category]; done) | rfl
def QS23 (Z : State) (a : Addr) (b : Addr) (z : Int32) (tb : Addr) (kt : ClassId) (d0 : Int32) (d1 : Int32) (d2 : Int32) (h0 : Heap) (n0 : Nat) (v : Option Value) (h : Heap) (L : List Loc) : Prop := ∃ (x : Addr) (kx : ClassId), v = none ∧ Fr n0 L ∧ Keep h0 h [a] ∧ Exa Z h a "java/lang/String" ∧ Fld Z h a "java/lang/String" "coder" "B" (.int 0) ∧ Fld Z h a "java/lang/String" "value" "[B" (.ref x) ∧ Arv Z h x kx .byte (3 : Int32) [(.int (StrChars.lo8 d0)), (.int (StrChars.lo8 d1)), (.int (StrChars.lo8 d2))] (.int 0)
set_option maxRecDepth 65536 in
set_option maxHeartbeats 40000000 in
theorem rmS23 (l : Launch) (Z : State) (a0 : Array Value) (hw : ∀ d ∈ tables_1, d.before a0 Z = true) (ws : List Jvm.Cond) (a : Addr) (b : Addr) (z : Int32) (tb : Addr) (kt : ClassId) (d0 : Int32) (d1 : Int32) (d2 : Int32) (h0 : Heap) (n0 : Nat) (Z0 : n0 ≤ h0.size) (hz : ¬ z = (0 : Int32)) (O : Old Z n0 h0) (SC : Sta Z Z.heap "java/lang/String" "COMPACT_STRINGS" "Z" (.int z)) (Eb : Exa Z h0 b "java/lang/StringBuilder") (Fv : Fld Z h0 b "java/lang/AbstractStringBuilder" "value" "[B" (.ref tb)) (Fc : Fld Z h0 b "java/lang/AbstractStringBuilder" "count" "I" (.int (3 : Int32))) (Fk : Fld Z h0 b "java/lang/AbstractStringBuilder" "coder" "B" (.int (0 : Int32))) (At : Arv Z h0 tb kt .byte (16 : Int32) [(.int (StrChars.lo8 d0)), (.int (StrChars.lo8 d1)), (.int (StrChars.lo8 d2)), (.int (0 : Int32)), (.int (0 : Int32)), (.int (0 : Int32)), (.int (0 : Int32)), (.int (0 : Int32)), (.int (0 : Int32)), (.int (0 : Int32)), (.int (0 : Int32)), (.int (0 : Int32)), (.int (0 : Int32)), (.int (0 : Int32)), (.int (0 : Int32)), (.int (0 : Int32))] (.int 0)) (gb : n0 ≤ b) (gt : n0 ≤ tb) (nbt : b ≠ tb) (Ea : Exa Z h0 a "java/lang/String") (V0 : Fld Z h0 a "java/lang/String" "value" "[B" .null) (C0 : Fld Z h0 a "java/lang/String" "coder" "B" (.int (0 : Int32))) (ga : n0 ≤ a) (nab : a ≠ b) (nat : a ≠ tb) :
    own_M l (⟨"java/lang/String", "<init>", "(Ljava/lang/AbstractStringBuilder;Ljava/lang/Void;)V"⟩ : MethodName) jdk_42_method_150_code 5 none ws ({ frames := 3, cells := 1, slots := 3, locals := 49 } : Room) #[(.ref a), (.ref b), .null] Z h0 (QS23 Z a b z tb kt d0 d1 d2 h0 n0) := by
  refine MetFree.of_bodySF (plainFor_of_name pn_4) hisR ?_
  intro p e s m args below meth cd s₁ Bd hml hP hK
  obtain ⟨rfl, hZ, hh⟩ := hP
  obtain ⟨X0, e0, H, hlk, hown, hret⟩ := own_start (R := ({ frames := 3, cells := 1, slots := 3, locals := 49 } : Room)) Bd hh rfl
  have hx := H.1; have hby := H.2; have N0 := Fr.nil n0
  have hnm := (name_of_methodNamed Bd.named Bd.method).1
  show own_Fin p e below (own_Ans s (QS23 Z a b z tb kt d0 d1 d2 h0 n0) ({ frames := 3, cells := 1, slots := 3, locals := 49 } : Room).cells ({ frames := 3, cells := 1, slots := 3, locals := 49 } : Room).slots) (s₁.setTop (entryFrame m #[(.ref a), (.ref b), .null] 5))
  refine own_cast (ef_rmS23 m a b) ?_
  show own_Fin p e below _ (s₁.setTop (mkF m 0 #[.val (.ref a), .val (.ref b), .val .null, .unset, .unset] []))
  refine o_aldN X0 H (od dB20 0 rfl) rfl rfl ?_
  obtain ⟨T132, X132, e132, st132⟩ := initO X0 hx hZ hown (ow hw 15 rfl) (ow hw 16 rfl) (ow hw 17 rfl) e0 (g := (mkF m 1 #[.val (.ref a), .val (.ref b), .val .null, .unset, .unset] [(.ref a)])) rfl (by rw [hml]; rfl) rfl (hb hby (od dB20 1 rfl)) (by decide) (W := 0) (by show 2 * 0 + _ ≤ _; exact Nat.le_of_eq rfl) (by decide)
  refine own_on st132 ?_
  show own_Fin p e below _ (T132.setTop (mkF m 4 #[.val (.ref a), .val (.ref b), .val .null, .unset, .unset] []))
  refine o_aldN X132 H (od dB20 2 rfl) rfl rfl ?_
  refine o_vs (argsL := []) (rest := []) X132 H hml hZ hown (ow hw 100 rfl) (ow hw 101 rfl) (ow hw 103 rfl) (ow hw 102 rfl) (backOf (W := 0) (rm21 l Z a0 hw [] b tb h0 n0 (by exact Z0) Fv) hZ (ow hw 104 rfl) (ow hw 80 rfl) (by decide) (by decide)) (by decide) Eb e132 pd_8 (od dB20 3 rfl) rfl rfl rfl rfl rfl (by decide) (by decide) (o_pk (fun _ _ _ q => q) N0 fun T133 Lc133 X133 N133 e133 => ?_)
  refine o_astN X133 H (od dB20 4 rfl) (L' := #[.val (.ref a), .val (.ref b), .val .null, .val (.ref tb), .unset]) rfl rfl ?_
  refine o_aldN X133 H (od dB20 5 rfl) rfl rfl ?_
  refine o_vc (argsL := []) (rest := []) X133 H hml hZ hown (ow hw 105 rfl) (ow hw 106 rfl) (own_nf (a0 := #[]) (mvT hZ (ow hw 103 rfl)) rfl) (ow hw 108 rfl) (ow hw 109 rfl) (backOf (W := 0) (rm22 l Z a0 hw [] b (3 : Int32) h0 n0 (by exact Z0) Eb Fc) hZ (ow hw 110 rfl) (ow hw 72 rfl) (by decide) (by decide)) (by decide) Eb e133 pd_1 (od dB20 6 rfl) rfl rfl rfl rfl rfl (by decide) (by decide) (o_pk (fun _ _ _ q => q) N133 fun T134 Lc134 X134 N134 e134 => ?_)
  refine o_ist X134 H (od dB20 7 rfl) (L' := #[.val (.ref a), .val (.ref b), .val .null, .val (.ref tb), .val (.int (3 : Int32))]) rfl ?_
  refine o_aldN X134 H (od dB20 8 rfl) rfl rfl ?_
  refine o_vs (argsL := []) (rest := []) X134 H hml hZ hown (ow hw 116 rfl) (ow hw 117 rfl) (ow hw 119 rfl) (ow hw 118 rfl) (backOf (W := 0) (rm24 l Z a0 hw [] b z h0 n0 (by exact Z0) hz O SC Fk) hZ (ow hw 120 rfl) (ow hw 80 rfl) (by decide) (by decide)) (by decide) Eb e134 pd_2 (od dB20 9 rfl) rfl rfl rfl rfl rfl (by decide) (by decide) (o_pk (fun _ _ _ q => q) N134 fun T135 Lc135 X135 N135 e135 => ?_)
  refine o_ifN X135 H (od dB20 10 rfl) ((if0 _ _).trans (feq (by decide : ¬ ((1 : Int32) = (0 : Int32)))).1) ?_
  refine o_aldN X135 H (od dB20 11 rfl) rfl rfl ?_
  refine o_ic X135 H (od dB20 12 rfl) (v := 0) rfl ?_
  obtain ⟨T136, h136, X136, e136, W136, st136⟩ := putFN X135 hx hZ hown (ow hw 30 rfl) Via.refl e135 C0 Ea (Or.inr ⟨(ow hw 31 rfl), rfl, hnm⟩) (ow hw 6 rfl) (ty := .byte) (v' := (.int (0 : Int32))) (by decide) rfl (by decide) (g := (mkF m 24 #[.val (.ref a), .val (.ref b), .val .null, .val (.ref tb), .val (.int (3 : Int32))] [(.int (0 : Int32)), (.ref a)])) rfl rfl (hb hby (od dB20 13 rfl))
  have N136 := Fr.snoc X136 N135 ga
  have y137 := (V0.other W136 (Or.inr (slot_ne (Or.inr (ow hw 33 rfl)) (Or.inr (ow hw 31 rfl)) (by decide) (t := (.array .byte)) (t' := .byte) (by decide) (by decide))))
  refine own_on st136 ?_
  show own_Fin p e below _ (T136.setTop (mkF m 27 #[.val (.ref a), .val (.ref b), .val .null, .val (.ref tb), .val (.int (3 : Int32))] []))
  refine o_aldN X136 H (od dB20 14 rfl) rfl rfl ?_
  refine o_aldN X136 H (od dB20 15 rfl) rfl rfl ?_
  refine o_ic X136 H (od dB20 16 rfl) (v := 0) rfl ?_
  refine o_ild X136 H (od dB20 17 rfl) rfl ?_
  refine o_tc (argsL := [(.ref tb), (.int (0 : Int32)), (.int (3 : Int32))]) (rest := [(.ref a)]) X136 H hml hZ hown (ow hw 121 rfl) (ow hw 122 rfl) (ow hw 123 rfl) (ow hw 124 rfl) (backOf (W := 1) (rmCr3 l Z a0 hw [] tb kt d0 d1 d2 h136 n0 (by exact (Nat.le_trans Z0 (Keep.of_wr W136).1)) (At.other W136 (Ne.symm nat))) hZ (ow hw 124 rfl) (ow hw 123 rfl) (by decide) (by decide)) (by decide) e136 pd_7 (od dB20 18 rfl) rfl rfl rfl rfl rfl (by decide) (by decide) fun _ T138 Lc138 X138 hQ138 => ?_
  obtain ⟨x138, kx138, rfl, N138q, K138, gn138, gk138, Aq138⟩ := hQ138
  have ne138_b : b ≠ x138 := Nat.ne_of_lt (Nat.lt_of_lt_of_le (Eb.wr W136).lt gk138)
  have ne138_tb : tb ≠ x138 := Nat.ne_of_lt (Nat.lt_of_lt_of_le (At.other W136 (Ne.symm nat)).lt gk138)
  have ne138_a : a ≠ x138 := Nat.ne_of_lt (Nat.lt_of_lt_of_le (Ea.wr W136).lt gk138)
  have N138 := Fr.app N136 N138q
  show own_Fin p e below _ (T138.setTop (mkF m 35 #[.val (.ref a), .val (.ref b), .val .null, .val (.ref tb), .val (.int (3 : Int32))] [(.ref x138), (.ref a)]))
  obtain ⟨T139, h139, X139, e139, W139, st139⟩ := putF X138 hx hZ hown (host := "") (Or.inl (ow hw 32 rfl)) Via.refl rfl (y137.keep K138 nin0) ((Ea.wr W136).keep K138) (Or.inr ⟨(ow hw 33 rfl), rfl, hnm⟩) (ow hw 6 rfl) (ty := (.array .byte)) (by decide) rfl rfl (g := (mkF m 35 #[.val (.ref a), .val (.ref b), .val .null, .val (.ref tb), .val (.int (3 : Int32))] [(.ref x138), (.ref a)])) rfl rfl (hb hby (od dB20 19 rfl))
  have N139 := Fr.snoc X139 N138 ga
  have y140 := ((((Keep.refl h0 [a]).wr W136 (Or.inl (List.mem_of_getElem? (i := 0) rfl))).trans K138 all0).wr W139 (Or.inl (List.mem_of_getElem? (i := 0) rfl)))
  have y141 := (((C0.same W136).keep K138 nin0).other W139 (Or.inr (slot_ne (Or.inr (ow hw 31 rfl)) (Or.inr (ow hw 33 rfl)) (by decide) (t := .byte) (t' := (.array .byte)) (by decide) (by decide))))
  refine own_on st139 ?_
  show own_Fin p e below _ (T139.setTop (mkF m 38 #[.val (.ref a), .val (.ref b), .val .null, .val (.ref tb), .val (.int (3 : Int32))] []))
  refine o_go X139 H (od dB20 20 rfl) (pc' := 97) (by decide) (by decide) ?_
  exact own_retV X139 hx hlk hret (hb hby (od dB20 50 rfl)) (by show QS23 Z a b z tb kt d0 d1 d2 h0 n0 _ T139.heap _; rw [e139]; exact ⟨x138, kx138, rfl, N139, y140, (((Ea.wr W136).keep K138).wr W139), y141, ((y137.keep K138 nin0).same W139), (Aq138.other W139 (Ne.symm ne138_a))⟩) (by decide) (by decide)
theorem ef_rmS13 (m : MethodId) (x0 : Addr) (x1 : Addr) : entryFrame m #[(.ref x0), (.ref x1)] 2 = mkF m 0 #[.val (.ref x0), .val (.ref x1)] [] := by first | (simp [entryFrame, mkF, argsToLocals, Value.category]; done) | rfl
def QS13 (Z : State) (a : Addr) (b : Addr) (z : Int32) (tb : Addr) (kt : ClassId) (d0 : Int32) (d1 : Int32) (d2 : Int32) (h0 : Heap) (n0 : Nat) (v : Option Value) (h : Heap) (L : List Loc) : Prop := ∃ (x : Addr) (kx : ClassId), v = none ∧ Fr n0 L ∧ Keep h0 h [a] ∧ Exa Z h a "java/lang/String" ∧ Fld Z h a "java/lang/String" "coder" "B" (.int 0) ∧ Fld Z h a "java/lang/String" "value" "[B" (.ref x) ∧ Arv Z h x kx .byte (3 : Int32) [(.int (StrChars.lo8 d0)), (.int (StrChars.lo8 d1)), (.int (StrChars.lo8 d2))] (.int 0)
set_option maxRecDepth 65536 in
set_option maxHeartbeats 40000000 in
theorem rmS13 (l : Launch) (Z : State) (a0 : Array Value) (hw : ∀ d ∈ tables_1, d.before a0 Z = true) (ws : List Jvm.Cond) (a : Addr) (b : Addr) (z : Int32) (tb : Addr) (kt : ClassId) (d0 : Int32) (d1 : Int32) (d2 : Int32) (h0 : Heap) (n0 : Nat) (Z0 : n0 ≤ h0.size) (hz : ¬ z = (0 : Int32)) (O : Old Z n0 h0) (SC : Sta Z Z.heap "java/lang/String" "COMPACT_STRINGS" "Z" (.int z)) (Eb : Exa Z h0 b "java/lang/StringBuilder") (Fv : Fld Z h0 b "java/lang/AbstractStringBuilder" "value" "[B" (.ref tb)) (Fc : Fld Z h0 b "java/lang/AbstractStringBuilder" "count" "I" (.int (3 : Int32))) (Fk : Fld Z h0 b "java/lang/AbstractStringBuilder" "coder" "B" (.int (0 : Int32))) (At : Arv Z h0 tb kt .byte (16 : Int32) [(.int (StrChars.lo8 d0)), (.int (StrChars.lo8 d1)), (.int (StrChars.lo8 d2)), (.int (0 : Int32)), (.int (0 : Int32)), (.int (0 : Int32)), (.int (0 : Int32)), (.int (0 : Int32)), (.int (0 : Int32)), (.int (0 : Int32)), (.int (0 : Int32)), (.int (0 : Int32)), (.int (0 : Int32)), (.int (0 : Int32)), (.int (0 : Int32)), (.int (0 : Int32))] (.int 0)) (gb : n0 ≤ b) (gt : n0 ≤ tb) (nbt : b ≠ tb) (Ea : Exa Z h0 a "java/lang/String") (V0 : Fld Z h0 a "java/lang/String" "value" "[B" .null) (C0 : Fld Z h0 a "java/lang/String" "coder" "B" (.int (0 : Int32))) (ga : n0 ≤ a) (nab : a ≠ b) (nat : a ≠ tb) :
    own_M l (⟨"java/lang/String", "<init>", "(Ljava/lang/StringBuilder;)V"⟩ : MethodName) jdk_42_method_53_code 2 none ws ({ frames := 4, cells := 1, slots := 3, locals := 65 } : Room) #[(.ref a), (.ref b)] Z h0 (QS13 Z a b z tb kt d0 d1 d2 h0 n0) := by
  refine MetFree.of_bodySF (plainFor_of_name pn_4) hisR ?_
  intro p e s m args below meth cd s₁ Bd hml hP hK
  obtain ⟨rfl, hZ, hh⟩ := hP
  obtain ⟨X0, e0, H, hlk, hown, hret⟩ := own_start (R := ({ frames := 4, cells := 1, slots := 3, locals := 65 } : Room)) Bd hh rfl
  have hx := H.1; have hby := H.2; have N0 := Fr.nil n0
  show own_Fin p e below (own_Ans s (QS13 Z a b z tb kt d0 d1 d2 h0 n0) ({ frames := 4, cells := 1, slots := 3, locals := 65 } : Room).cells ({ frames := 4, cells := 1, slots := 3, locals := 65 } : Room).slots) (s₁.setTop (entryFrame m #[(.ref a), (.ref b)] 2))
  refine own_cast (ef_rmS13 m a b) ?_
  show own_Fin p e below _ (s₁.setTop (mkF m 0 #[.val (.ref a), .val (.ref b)] []))
  refine o_aldN X0 H (od dB19 0 rfl) rfl rfl ?_
  refine o_aldN X0 H (od dB19 1 rfl) rfl rfl ?_
  refine o_nul X0 H (od dB19 2 rfl) ?_
  refine o_sc (b := a) (argsL := [(.ref b), .null]) (rest := []) X0 H hml hZ hown (ow hw 97 rfl) (ow hw 98 rfl) (ow hw 99 rfl) (backOf (W := 0) (rmS23 l Z a0 hw [] a b z tb kt d0 d1 d2 h0 n0 (by exact Z0) hz O SC Eb Fv Fc Fk At gb gt nbt Ea V0 C0 ga nab nat) hZ (ow hw 99 rfl) (ow hw 7 rfl) (by decide) (by decide)) rfl (by decide) e0 pd_9 (od dB19 3 rfl) rfl rfl rfl rfl rfl (by decide) (by decide) fun _ T142 Lc142 X142 hQ142 => ?_
  obtain ⟨x142, kx142, rfl, N142q, K142, Eq142, Cq142, Vq142, Aq142⟩ := hQ142
  have N142 := Fr.app N0 N142q
  show own_Fin p e below _ (T142.setTop (mkF m 6 #[.val (.ref a), .val (.ref b)] []))
  exact own_retV X142 hx hlk hret (hb hby (od dB19 4 rfl)) (by show QS13 Z a b z tb kt d0 d1 d2 h0 n0 _ T142.heap _; exact ⟨x142, kx142, rfl, N142, ((Keep.refl h0 [a]).trans K142 (allS (Or.inl (List.mem_of_getElem? (i := 0) rfl)) all0)), Eq142, Cq142, Vq142, Aq142⟩) (by decide) (by decide)
theorem ef_rmTs3 (m : MethodId) (x0 : Addr) : entryFrame m #[(.ref x0)] 1 = mkF m 0 #[.val (.ref x0)] [] := by first | (simp [entryFrame, mkF, argsToLocals, Value.category]; done) | rfl
def QTs3 (Z : State) (b : Addr) (z : Int32) (tb : Addr) (kt : ClassId) (d0 : Int32) (d1 : Int32) (d2 : Int32) (h0 : Heap) (n0 : Nat) (v : Option Value) (h : Heap) (L : List Loc) : Prop := ∃ (y x : Addr) (kx : ClassId), v = some (.ref y) ∧ Fr n0 L ∧ Keep h0 h [] ∧ h0.size ≤ y ∧ Exa Z h y "java/lang/String" ∧ Fld Z h y "java/lang/String" "coder" "B" (.int 0) ∧ Fld Z h y "java/lang/String" "value" "[B" (.ref x) ∧ Arv Z h x kx .byte (3 : Int32) [(.int (StrChars.lo8 d0)), (.int (StrChars.lo8 d1)), (.int (StrChars.lo8 d2))] (.int 0)
set_option maxRecDepth 65536 in
set_option maxHeartbeats 40000000 in
theorem rmTs3 (l : Launch) (Z : State) (a0 : Array Value) (hw : ∀ d ∈ tables_1, d.before a0 Z = true) (ws : List Jvm.Cond) (b : Addr) (z : Int32) (tb : Addr) (kt : ClassId) (d0 : Int32) (d1 : Int32) (d2 : Int32) (h0 : Heap) (n0 : Nat) (Z0 : n0 ≤ h0.size) (hz : ¬ z = (0 : Int32)) (O : Old Z n0 h0) (SC : Sta Z Z.heap "java/lang/String" "COMPACT_STRINGS" "Z" (.int z)) (Eb : Exa Z h0 b "java/lang/StringBuilder") (Fv : Fld Z h0 b "java/lang/AbstractStringBuilder" "value" "[B" (.ref tb)) (Fc : Fld Z h0 b "java/lang/AbstractStringBuilder" "count" "I" (.int (3 : Int32))) (Fk : Fld Z h0 b "java/lang/AbstractStringBuilder" "coder" "B" (.int (0 : Int32))) (At : Arv Z h0 tb kt .byte (16 : Int32) [(.int (StrChars.lo8 d0)), (.int (StrChars.lo8 d1)), (.int (StrChars.lo8 d2)), (.int (0 : Int32)), (.int (0 : Int32)), (.int (0 : Int32)), (.int (0 : Int32)), (.int (0 : Int32)), (.int (0 : Int32)), (.int (0 : Int32)), (.int (0 : Int32)), (.int (0 : Int32)), (.int (0 : Int32)), (.int (0 : Int32)), (.int (0 : Int32)), (.int (0 : Int32))] (.int 0)) (gb : n0 ≤ b) (gt : n0 ≤ tb) (nbt : b ≠ tb) :
    own_M l (⟨"java/lang/StringBuilder", "toString", "()Ljava/lang/String;"⟩ : MethodName) jdk_67_method_42_code 1 (some (.object "java/lang/String")) ws ({ frames := 5, cells := 2, slots := 7, locals := 79 } : Room) #[(.ref b)] Z h0 (QTs3 Z b z tb kt d0 d1 d2 h0 n0) := by
  refine MetFree.of_bodySF (plainFor_of_name pn_1) hisR ?_
  intro p e s m args below meth cd s₁ Bd hml hP hK
  obtain ⟨rfl, hZ, hh⟩ := hP
  obtain ⟨X0, e0, H, hlk, hown, hret⟩ := own_start (R := ({ frames := 5, cells := 2, slots := 7, locals := 79 } : Room)) Bd hh rfl
  have hx := H.1; have hby := H.2; have N0 := Fr.nil n0
  show own_Fin p e below (own_Ans s (QTs3 Z b z tb kt d0 d1 d2 h0 n0) ({ frames := 5, cells := 2, slots := 7, locals := 79 } : Room).cells ({ frames := 5, cells := 2, slots := 7, locals := 79 } : Room).slots) (s₁.setTop (entryFrame m #[(.ref b)] 1))
  refine own_cast (ef_rmTs3 m b) ?_
  show own_Fin p e below _ (s₁.setTop (mkF m 0 #[.val (.ref b)] []))
  obtain ⟨T143, h143, X143, e143, E143, A143, D143, -, st143⟩ := newO X0 hx hZ hown (ow hw 93 rfl) (ow hw 6 rfl) (ow hw 7 rfl) e0 (g := (mkF m 0 #[.val (.ref b)] [])) rfl (hb hby (od dB18 0 rfl)) (by decide) (by decide)
  obtain ⟨b143, g143⟩ : ∃ z, z = h0.size := ⟨_, rfl⟩
  rw [← g143] at A143 D143 st143
  have ne143_b : b ≠ b143 := own_ne_of (Z := Z) Eb.lt g143
  have ne143_tb : tb ≠ b143 := own_ne_of (Z := Z) At.lt g143
  have gn143 : n0 ≤ b143 := Nat.le_trans Z0 (Nat.le_of_eq g143.symm)
  have gk143 : h0.size ≤ b143 := Nat.le_trans (Keep.refl h0 []).1 (Nat.le_of_eq g143.symm)
  have F143_coder : Fld Z h143 b143 "java/lang/String" "coder" "B" (.int (0 : Int32)) := D143 (Or.inr (ow hw 31 rfl)) (ty := .byte) (by decide)
  have F143_value : Fld Z h143 b143 "java/lang/String" "value" "[B" .null := D143 (Or.inr (ow hw 33 rfl)) (ty := (.array .byte)) (by decide)
  refine own_on st143 ?_
  show own_Fin p e below _ (T143.setTop (mkF m 3 #[.val (.ref b)] [(.ref b143)]))
  refine o_dup X143 H (od dB18 1 rfl) rfl ?_
  refine o_aldN X143 H (od dB18 2 rfl) rfl rfl ?_
  refine o_sc (b := b143) (argsL := [(.ref b)]) (rest := [(.ref b143)]) X143 H hml hZ hown (ow hw 94 rfl) (ow hw 95 rfl) (ow hw 96 rfl) (backOf (W := 1) (rmS13 l Z a0 hw [] b143 b z tb kt d0 d1 d2 h143 n0 (by exact (Nat.le_trans Z0 E143.1)) hz (O.ext E143) SC (Eb.ext E143) (Fv.ext E143) (Fc.ext E143) (Fk.ext E143) (At.ext E143) gb gt nbt A143 F143_value F143_coder gn143 (Ne.symm ne143_b) (Ne.symm ne143_tb)) hZ (ow hw 96 rfl) (ow hw 7 rfl) (by decide) (by decide)) rfl (by decide) e143 pd_10 (od dB18 3 rfl) rfl rfl rfl rfl rfl (by decide) (by decide) fun _ T144 Lc144 X144 hQ144 => ?_
  obtain ⟨x144, kx144, rfl, N144q, K144, Eq144, Cq144, Vq144, Aq144⟩ := hQ144
  have N144 := Fr.app N0 N144q
  show own_Fin p e below _ (T144.setTop (mkF m 8 #[.val (.ref b)] [(.ref b143)]))
  exact own_ret (t := (.object "java/lang/String")) X144 hx hlk hret rfl (Or.inr (Or.inr (Or.inr (Or.inr ⟨rfl, rfl, rfl⟩)))) (hb hby (od dB18 4 rfl)) (by show QTs3 Z b z tb kt d0 d1 d2 h0 n0 _ T144.heap _; exact ⟨b143, x144, kx144, rfl, N144, (((Keep.refl h0 []).ext E143).trans K144 (allS (Or.inr gk143) all0)), gk143, Eq144, Cq144, Vq144, Aq144⟩) (by decide) (by decide)
theorem pn_5 : plainName "com/example/tidelock/tidelock/server/StructuredFields" = true := by first | (simp [plainName, overriddenIn]; done) | decide +kernel
theorem dB8 : oL prog_20_method_2_code [(0, .aload_n 0, 1), (1, .invokevirtual 7, 3), (4, .istore_n 1, 1), (5, .iload_n 1, 1), (6, .ifCond .le 21, 3), (9, .aload_n 0, 1), (10, .iload_n 1, 1), (11, .iconst 1, 1), (12, .isub, 1), (13, .invokevirtual 13, 3), (16, .bipush 32, 2), (18, .if_icmp .ne 9, 3), (21, .iinc 1 (-1), 3), (24, .goto (-19), 3), (27, .iconst 0, 1), (28, .istore_n 2, 1), (29, .iload_n 2, 1), (30, .iload_n 1, 1), (31, .if_icmp .ge 19, 3), (34, .aload_n 0, 1), (35, .iload_n 2, 1), (36, .invokevirtual 13, 3), (39, .bipush 32, 2), (41, .if_icmp .ne 9, 3), (44, .iinc 2 1, 3), (47, .goto (-18), 3), (50, .iload_n 2, 1), (51, .iload_n 1, 1), (52, .if_icmp .eq 13, 3), (55, .aload_n 0, 1), (56, .iload_n 2, 1), (57, .invokevirtual 13, 3), (60, .bipush 34, 2), (62, .if_icmp .eq 13, 3), (65, .new 17, 3), (68, .dup, 1), (69, .ldc 21, 2), (71, .invokespecial 23, 3), (74, .athrow, 1), (75, .new 26, 3), (78, .dup, 1), (79, .invokespecial 28, 3), (82, .astore_n 3, 1), (83, .iinc 2 1, 3), (86, .iload_n 2, 1), (87, .iload_n 1, 1), (88, .if_icmp .ge 113, 3), (91, .aload_n 0, 1), (92, .iload_n 2, 1), (93, .invokevirtual 13, 3), (96, .bipush 34, 2), (98, .if_icmp .eq 103, 3), (101, .aload_n 0, 1), (102, .iload_n 2, 1), (103, .invokevirtual 13, 3), (106, .istore 4, 2), (108, .iload 4, 2), (110, .bipush 92, 2), (112, .if_icmp .ne 46, 3), (115, .iinc 2 1, 3), (118, .iload_n 2, 1), (119, .iload_n 1, 1), (120, .if_icmp .ge 11, 3), (123, .aload_n 0, 1), (124, .iload_n 2, 1), (125, .invokevirtual 13, 3), (128, .goto 4, 3), (131, .iconst 0, 1), (132, .istore 4, 2), (134, .iload 4, 2), (136, .bipush 34, 2), (138, .if_icmp .eq 50, 3), (141, .iload 4, 2), (143, .bipush 92, 2), (145, .if_icmp .eq 43, 3), (148, .new 17, 3), (151, .dup, 1), (152, .ldc 29, 2), (154, .invokespecial 23, 3), (157, .athrow, 1), (158, .iload 4, 2), (160, .bipush 32, 2), (162, .if_icmp .lt 10, 3), (165, .iload 4, 2), (167, .bipush 126, 2), (169, .if_icmp .le 19, 3), (172, .new 17, 3), (175, .dup, 1), (176, .iload_n 2, 1), (177, .iconst 1, 1), (178, .iadd, 1), (184, .invokespecial 23, 3), (187, .athrow, 1), (188, .aload_n 3, 1), (189, .iload 4, 2), (191, .invokevirtual 35, 3), (194, .pop, 1), (195, .iinc 2 1, 3), (198, .goto (-112), 3), (201, .iload_n 2, 1), (202, .iload_n 1, 1), (203, .iconst 1, 1), (204, .isub, 1), (205, .if_icmp .eq 13, 3), (208, .new 17, 3), (211, .dup, 1), (212, .ldc 39, 2), (214, .invokespecial 23, 3), (217, .athrow, 1), (218, .aload_n 3, 1), (219, .invokevirtual 41, 3), (222, .areturn, 1)] := by unfold oL; decide +kernel
theorem pd_11 : parseMethodDescriptor "(I)C" = some ⟨[.int], some .char⟩ := by decide +kernel
theorem pd_12 : parseMethodDescriptor "()V" = some ⟨[], none⟩ := by decide +kernel
theorem pd_13 : parseMethodDescriptor "()Ljava/lang/String;" = some ⟨[], some (.object "java/lang/String")⟩ := by decide +kernel
theorem pd_14 : parseMethodDescriptor "(C)Ljava/lang/StringBuilder;" = some ⟨[.char], some (.object "java/lang/StringBuilder")⟩ := by decide +kernel
theorem ef_rm8 (m : MethodId) (x0 : Addr) : entryFrame m #[(.ref x0)] 5 = mkF m 0 #[.val (.ref x0), .unset, .unset, .unset, .unset] [] := by first | (simp [entryFrame, mkF, argsToLocals, Value.category]; done) | rfl
def Q8 (Z : State) (x : Addr) (z : Int32) (fm : Value) (tx : Addr) (kx : ClassId) (ld : Nat) (tl : Nat) (es : List (Bool × Int32)) (N2 : Int32) (vs : List Value) (h0 : Heap) (n0 : Nat) (v : Option Value) (h : Heap) (L : List Loc) : Prop := ∃ (y t : Addr) (ky : ClassId), v = some (.ref y) ∧ Fr n0 L ∧ Keep h0 h [] ∧ Exa Z h y "java/lang/String" ∧ Fld Z h y "java/lang/String" "coder" "B" (.int 0) ∧ Fld Z h y "java/lang/String" "value" "[B" (.ref t) ∧ Arv Z h t ky .byte (Int32.ofNat es.length) (((es.map Prod.snd).map StrChars.lo8).map Value.int) (.int 0)
set_option maxRecDepth 65536 in
set_option maxHeartbeats 40000000 in
theorem rm8 (l : Launch) (Z : State) (a0 : Array Value) (hw : ∀ d ∈ tables_1, d.before a0 Z = true) (ws : List Jvm.Cond) (x : Addr) (z : Int32) (fm : Value) (tx : Addr) (kx : ClassId) (ld : Nat) (tl : Nat) (es : List (Bool × Int32)) (N2 : Int32) (vs : List Value) (h0 : Heap) (n0 : Nat) (Z0 : n0 ≤ h0.size) (hz : ¬ z = (0 : Int32)) (O : Old Z n0 h0) (SC : Sta Z Z.heap "java/lang/String" "COMPACT_STRINGS" "Z" (.int z)) (SF : Sta Z Z.heap "jdk/internal/util/Preconditions" "SIOOBE_FORMATTER" "Ljava/util/function/BiFunction;" fm) (hfm : fm.isRef = true) (Ex : Exa Z h0 x "java/lang/String") (Vx : Fld Z h0 x "java/lang/String" "value" "[B" (.ref tx)) (Cx : Fld Z h0 x "java/lang/String" "coder" "B" (.int 0)) (Kx : Arv Z h0 tx kx .byte N2 vs (.int 0)) (cod : StrChars.Road.CodA (own_cs ld es tl) 0 N2 vs) (r16 : ∀ c ∈ own_cs ld es tl, ¬ c < 0 ∧ ¬ (65535 : Int32) < c) (hld : ld ≤ 3) (htl : tl ≤ 9) (hes : es.length ≤ 3) (hu : ∀ u ∈ es, own_unit u) :
    own_M l (⟨"com/example/tidelock/tidelock/server/StructuredFields", "string", "(Ljava/lang/String;)Ljava/lang/String;"⟩ : MethodName) prog_20_method_2_code 5 (some (.object "java/lang/String")) ws ({ frames := 6, cells := 4, slots := 27, locals := 91 } : Room) #[(.ref x)] Z h0 (Q8 Z x z fm tx kx ld tl es N2 vs h0 n0) := by
  refine MetFree.of_bodySF (plainFor_of_name pn_5) hisR ?_
  intro p e s m args below meth cd s₁ Bd hml hP hK
  obtain ⟨rfl, hZ, hh⟩ := hP
  obtain ⟨X0, e0, H, hlk, hown, hret⟩ := own_start (R := ({ frames := 6, cells := 4, slots := 27, locals := 91 } : Room)) Bd hh rfl
  have hx := H.1; have hby := H.2; have N0 := Fr.nil n0
  show own_Fin p e below (own_Ans s (Q8 Z x z fm tx kx ld tl es N2 vs h0 n0) ({ frames := 6, cells := 4, slots := 27, locals := 91 } : Room).cells ({ frames := 6, cells := 4, slots := 27, locals := 91 } : Room).slots) (s₁.setTop (entryFrame m #[(.ref x)] 5))
  refine own_cast (ef_rm8 m x) ?_
  show own_Fin p e below _ (s₁.setTop (mkF m 0 #[.val (.ref x), .unset, .unset, .unset, .unset] []))
  refine o_aldN X0 H (od dB8 0 rfl) rfl rfl ?_
  obtain ⟨cq145, kq145, q145a, q145b, q145c⟩ := isOf hZ e0 Ex
  obtain ⟨_, _, ⟨T145, L145, k145, n145⟩, -, X145, ⟨Lc145, hQ145, l145, y145, z145⟩, st145⟩ := X0.virtualBack hx (y := (⟨"java/lang/String", "length", "()I"⟩ : MethodName)) (z := (⟨"java/lang/String", "length", "()I"⟩ : MethodName)) hown (mvT hZ (ow hw 38 rfl)) (mvT hZ (ow hw 39 rfl)) (notFace_of_selects (args := #[]) (mvT hZ (ow hw 41 rfl))) (mvT hZ (ow hw 41 rfl)) (mvT hZ (ow hw 40 rfl)) (by decide) (StrChars.Road.lenW (W := 0) hZ (own_wL hw) (ow hw 6 rfl) Ex Vx Cx Kx cod r16 (SC.ext O.2) hz (by rw [own_lenC]; have := own_encl es; omega) (by decide) (by decide)) q145a q145c (g := (mkF m 1 #[.val (.ref x), .unset, .unset, .unset, .unset] [(.ref x)])) rfl hml.symm (Steps.refl _) (argsL := []) (rest := []) (lenOf pd_1 rfl) rfl (o_mr rfl) (hb hby (od dB8 1 rfl)) (fun _ _ => ⟨rfl, e0, (by decide : 0 + 0 ≤ _), (by decide : 0 + 0 ≤ _)⟩)
  dsimp only [Pt.U, Pt.locs, Pt.cells, Pt.slots] at X145 l145 y145 z145 st145 hQ145
  replace l145 := l145.symm; replace y145 := y145.symm; replace z145 := z145.symm; subst l145 y145 z145
  obtain ⟨rfl, rfl, e145⟩ := hQ145
  have N145 := Fr.app N0 (Fr.nil n0)
  refine own_via st145 ?_
  show own_Fin p e below _ (T145.setTop (mkF m 4 #[.val (.ref x), .unset, .unset, .unset, .unset] [(.int (Int32.ofNat (own_cs ld es tl).length))]))
  refine o_istN X145 H (od dB8 2 rfl) (L' := #[.val (.ref x), .val (.int (Int32.ofNat (own_cs ld es tl).length)), .unset, .unset, .unset]) rfl ?_
  obtain ⟨Q, hQ⟩ : ∃ Q : Nat, Q = ld + 1 + (own_enc es).length := ⟨_, rfl⟩
  have henc := own_encl es
  obtain ⟨k0, hk0, hq0⟩ : ∃ k0, k0 ≤ tl ∧ Int32.ofNat (own_cs ld es tl).length = Int32.ofNat (Q + 1 + k0) := ⟨tl, Nat.le_refl tl, by rw [own_lenC, hQ]; congr 1; omega⟩
  rw [hq0]
  clear hq0
  revert X145
  revert e145
  generalize T145 = Ta
  induction k0 generalizing Ta with
  | zero =>
    intro ea Xa
    show own_Fin p e below _ (Ta.setTop (mkF m 5 #[.val (.ref x), .val (.int (Int32.ofNat (Q + 1))), .unset, .unset, .unset] []))
    refine o_ildN Xa H (od dB8 3 rfl) rfl ?_
    refine o_ifN Xa H (od dB8 4 rfl) ((if0 _ _).trans (tlt (own_opos (by omega) (by omega))).2.2.2) ?_
    refine o_aldN Xa H (od dB8 5 rfl) rfl rfl ?_
    refine o_ildN Xa H (od dB8 6 rfl) rfl ?_
    refine o_ic Xa H (od dB8 7 rfl) (v := 1) rfl ?_
    refine o_isub Xa H (od dB8 8 rfl) ?_
    rw [own_sub1]
    show own_Fin p e below _ (Ta.setTop (mkF m 13 #[.val (.ref x), .val (.int (Int32.ofNat (Q + 1))), .unset, .unset, .unset] [(.int (Int32.ofNat Q)), (.ref x)]))
    have vc146 : (own_cs ld es tl).getD (Q) 0 = (34 : Int32) := own_q2 hQ
    obtain ⟨cq146, kq146, q146a, q146b, q146c⟩ := isOf hZ ea Ex
    obtain ⟨_, _, ⟨T146, L146, k146, n146⟩, -, X146, ⟨Lc146, hQ146, l146, y146, z146⟩, st146⟩ := Xa.virtualBack hx (y := (⟨"java/lang/String", "charAt", "(I)C"⟩ : MethodName)) (z := (⟨"java/lang/String", "charAt", "(I)C"⟩ : MethodName)) hown (mvT hZ (ow hw 48 rfl)) (mvT hZ (ow hw 49 rfl)) (notFace_of_selects (args := #[]) (mvT hZ (ow hw 51 rfl))) (mvT hZ (ow hw 51 rfl)) (mvT hZ (ow hw 50 rfl)) (by decide) (StrChars.Road.chN (W := 0) hZ (own_wC hw) (ow hw 6 rfl) Ex Vx Cx Kx cod r16 (SC.ext O.2) hz (SF.ext O.2) hfm (i := Q) (by rw [own_lenC]; omega) (by rw [own_lenC]; omega) rfl (by decide) (by decide)) q146a q146c (g := (mkF m 13 #[.val (.ref x), .val (.int (Int32.ofNat (Q + 1))), .unset, .unset, .unset] [(.int (Int32.ofNat Q)), (.ref x)])) rfl hml.symm (Steps.refl _) (argsL := [(.int (Int32.ofNat Q))]) (rest := []) (lenOf pd_11 rfl) rfl (o_mr rfl) (hb hby (od dB8 9 rfl)) (fun _ _ => ⟨rfl, ea, (by decide : 0 + 0 ≤ _), (by decide : 0 + 0 ≤ _)⟩)
    dsimp only [Pt.U, Pt.locs, Pt.cells, Pt.slots] at X146 l146 y146 z146 st146 hQ146
    replace l146 := l146.symm; replace y146 := y146.symm; replace z146 := z146.symm; subst l146 y146 z146
    obtain ⟨rfl, rfl, e146⟩ := hQ146
    have N146 := Fr.app N145 (Fr.nil n0)
    rw [vc146] at st146
    refine own_via st146 ?_
    show own_Fin p e below _ (T146.setTop (mkF m 16 #[.val (.ref x), .val (.int (Int32.ofNat (Q + 1))), .unset, .unset, .unset] [(.int (34 : Int32))]))
    refine o_bi X146 H (od dB8 10 rfl) (v := 32) rfl ?_
    refine o_icY X146 H (od dB8 11 rfl) (feq (by decide : ¬ ((34 : Int32) = (32 : Int32)))).2 (pc' := 27) (by decide) (by decide) ?_
    refine o_ic X146 H (od dB8 14 rfl) (v := 0) rfl ?_
    refine o_istN X146 H (od dB8 15 rfl) (L' := #[.val (.ref x), .val (.int (Int32.ofNat (Q + 1))), .val (.int (0 : Int32)), .unset, .unset]) rfl ?_
    obtain ⟨k1, hk1, hq1⟩ : ∃ k1, k1 ≤ ld ∧ (0 : Int32) = Int32.ofNat (ld - k1) := ⟨ld, Nat.le_refl ld, by rw [Nat.sub_self]; rfl⟩
    rw [hq1]
    clear hq1
    revert X146
    revert e146
    generalize T146 = Tb
    induction k1 generalizing Tb with
    | zero =>
      intro eb Xb
      show own_Fin p e below _ (Tb.setTop (mkF m 29 #[.val (.ref x), .val (.int (Int32.ofNat (Q + 1))), .val (.int (Int32.ofNat ld)), .unset, .unset] []))
      refine o_ildN Xb H (od dB8 16 rfl) rfl ?_
      refine o_ildN Xb H (od dB8 17 rfl) rfl ?_
      refine o_icN Xb H (od dB8 18 rfl) (tlt (own_olt (by omega) (by omega))).2.1 ?_
      refine o_aldN Xb H (od dB8 19 rfl) rfl rfl ?_
      refine o_ildN Xb H (od dB8 20 rfl) rfl ?_
      have vc147 : (own_cs ld es tl).getD (ld) 0 = (34 : Int32) := own_q1 _ _ _
      obtain ⟨cq147, kq147, q147a, q147b, q147c⟩ := isOf hZ eb Ex
      obtain ⟨_, _, ⟨T147, L147, k147, n147⟩, -, X147, ⟨Lc147, hQ147, l147, y147, z147⟩, st147⟩ := Xb.virtualBack hx (y := (⟨"java/lang/String", "charAt", "(I)C"⟩ : MethodName)) (z := (⟨"java/lang/String", "charAt", "(I)C"⟩ : MethodName)) hown (mvT hZ (ow hw 48 rfl)) (mvT hZ (ow hw 49 rfl)) (notFace_of_selects (args := #[]) (mvT hZ (ow hw 51 rfl))) (mvT hZ (ow hw 51 rfl)) (mvT hZ (ow hw 50 rfl)) (by decide) (StrChars.Road.chN (W := 0) hZ (own_wC hw) (ow hw 6 rfl) Ex Vx Cx Kx cod r16 (SC.ext O.2) hz (SF.ext O.2) hfm (i := ld) (by rw [own_lenC]; omega) (by rw [own_lenC]; omega) rfl (by decide) (by decide)) q147a q147c (g := (mkF m 36 #[.val (.ref x), .val (.int (Int32.ofNat (Q + 1))), .val (.int (Int32.ofNat ld)), .unset, .unset] [(.int (Int32.ofNat ld)), (.ref x)])) rfl hml.symm (Steps.refl _) (argsL := [(.int (Int32.ofNat ld))]) (rest := []) (lenOf pd_11 rfl) rfl (o_mr rfl) (hb hby (od dB8 21 rfl)) (fun _ _ => ⟨rfl, eb, (by decide : 0 + 0 ≤ _), (by decide : 0 + 0 ≤ _)⟩)
      dsimp only [Pt.U, Pt.locs, Pt.cells, Pt.slots] at X147 l147 y147 z147 st147 hQ147
      replace l147 := l147.symm; replace y147 := y147.symm; replace z147 := z147.symm; subst l147 y147 z147
      obtain ⟨rfl, rfl, e147⟩ := hQ147
      have N147 := Fr.app N146 (Fr.nil n0)
      rw [vc147] at st147
      refine own_via st147 ?_
      show own_Fin p e below _ (T147.setTop (mkF m 39 #[.val (.ref x), .val (.int (Int32.ofNat (Q + 1))), .val (.int (Int32.ofNat ld)), .unset, .unset] [(.int (34 : Int32))]))
      refine o_bi X147 H (od dB8 22 rfl) (v := 32) rfl ?_
      refine o_icY X147 H (od dB8 23 rfl) (feq (by decide : ¬ ((34 : Int32) = (32 : Int32)))).2 (pc' := 50) (by decide) (by decide) ?_
      refine o_ildN X147 H (od dB8 26 rfl) rfl ?_
      refine o_ildN X147 H (od dB8 27 rfl) rfl ?_
      refine o_icN X147 H (od dB8 28 rfl) (feq (own_one (by omega) (by omega) (by omega))).1 ?_
      refine o_aldN X147 H (od dB8 29 rfl) rfl rfl ?_
      refine o_ildN X147 H (od dB8 30 rfl) rfl ?_
      have vc148 : (own_cs ld es tl).getD (ld) 0 = (34 : Int32) := own_q1 _ _ _
      obtain ⟨cq148, kq148, q148a, q148b, q148c⟩ := isOf hZ e147 Ex
      obtain ⟨_, _, ⟨T148, L148, k148, n148⟩, -, X148, ⟨Lc148, hQ148, l148, y148, z148⟩, st148⟩ := X147.virtualBack hx (y := (⟨"java/lang/String", "charAt", "(I)C"⟩ : MethodName)) (z := (⟨"java/lang/String", "charAt", "(I)C"⟩ : MethodName)) hown (mvT hZ (ow hw 48 rfl)) (mvT hZ (ow hw 49 rfl)) (notFace_of_selects (args := #[]) (mvT hZ (ow hw 51 rfl))) (mvT hZ (ow hw 51 rfl)) (mvT hZ (ow hw 50 rfl)) (by decide) (StrChars.Road.chN (W := 0) hZ (own_wC hw) (ow hw 6 rfl) Ex Vx Cx Kx cod r16 (SC.ext O.2) hz (SF.ext O.2) hfm (i := ld) (by rw [own_lenC]; omega) (by rw [own_lenC]; omega) rfl (by decide) (by decide)) q148a q148c (g := (mkF m 57 #[.val (.ref x), .val (.int (Int32.ofNat (Q + 1))), .val (.int (Int32.ofNat ld)), .unset, .unset] [(.int (Int32.ofNat ld)), (.ref x)])) rfl hml.symm (Steps.refl _) (argsL := [(.int (Int32.ofNat ld))]) (rest := []) (lenOf pd_11 rfl) rfl (o_mr rfl) (hb hby (od dB8 31 rfl)) (fun _ _ => ⟨rfl, e147, (by decide : 0 + 0 ≤ _), (by decide : 0 + 0 ≤ _)⟩)
      dsimp only [Pt.U, Pt.locs, Pt.cells, Pt.slots] at X148 l148 y148 z148 st148 hQ148
      replace l148 := l148.symm; replace y148 := y148.symm; replace z148 := z148.symm; subst l148 y148 z148
      obtain ⟨rfl, rfl, e148⟩ := hQ148
      have N148 := Fr.app N147 (Fr.nil n0)
      rw [vc148] at st148
      refine own_via st148 ?_
      show own_Fin p e below _ (T148.setTop (mkF m 60 #[.val (.ref x), .val (.int (Int32.ofNat (Q + 1))), .val (.int (Int32.ofNat ld)), .unset, .unset] [(.int (34 : Int32))]))
      refine o_bi X148 H (od dB8 32 rfl) (v := 34) rfl ?_
      refine o_icY X148 H (od dB8 33 rfl) (teq (by decide : (34 : Int32) = (34 : Int32))).1 (pc' := 75) (by decide) (by decide) ?_
      obtain ⟨T149, h149, X149, e149, E149, A149, D149, -, st149⟩ := newO X148 hx hZ hown (ow hw 70 rfl) (ow hw 71 rfl) (ow hw 72 rfl) e148 (g := (mkF m 75 #[.val (.ref x), .val (.int (Int32.ofNat (Q + 1))), .val (.int (Int32.ofNat ld)), .unset, .unset] [])) rfl (hb hby (od dB8 39 rfl)) (by decide) (by decide)
      obtain ⟨b149, g149⟩ : ∃ z, z = h0.size := ⟨_, rfl⟩
      rw [← g149] at A149 D149 st149
      have ne149_x : x ≠ b149 := own_ne_of (Z := Z) Ex.lt g149
      have ne149_tx : tx ≠ b149 := own_ne_of (Z := Z) Kx.lt g149
      have gn149 : n0 ≤ b149 := Nat.le_trans Z0 (Nat.le_of_eq g149.symm)
      have gk149 : h0.size ≤ b149 := Nat.le_trans (Keep.refl h0 []).1 (Nat.le_of_eq g149.symm)
      have F149_value : Fld Z h149 b149 "java/lang/AbstractStringBuilder" "value" "[B" .null := D149 (Or.inl (ow hw 85 rfl)) (ty := (.array .byte)) (by decide)
      have F149_coder : Fld Z h149 b149 "java/lang/AbstractStringBuilder" "coder" "B" (.int (0 : Int32)) := D149 (Or.inl (ow hw 87 rfl)) (ty := .byte) (by decide)
      have F149_count : Fld Z h149 b149 "java/lang/AbstractStringBuilder" "count" "I" (.int (0 : Int32)) := D149 (Or.inl (ow hw 115 rfl)) (ty := .int) (by decide)
      refine own_on st149 ?_
      show own_Fin p e below _ (T149.setTop (mkF m 78 #[.val (.ref x), .val (.int (Int32.ofNat (Q + 1))), .val (.int (Int32.ofNat ld)), .unset, .unset] [(.ref b149)]))
      refine o_dup X149 H (od dB8 40 rfl) rfl ?_
      refine o_sc (b := b149) (argsL := []) (rest := [(.ref b149)]) X149 H hml hZ hown (ow hw 73 rfl) (ow hw 74 rfl) (ow hw 75 rfl) (backOf (W := 1) (rm16 l Z a0 hw [] b149 z h149 n0 (by exact (Nat.le_trans Z0 E149.1)) hz (O.ext E149) SC A149 F149_value F149_count F149_coder gn149) hZ (ow hw 75 rfl) (ow hw 72 rfl) (by decide) (by decide)) rfl (by decide) e149 pd_12 (od dB8 41 rfl) rfl rfl rfl rfl rfl (by decide) (by decide) fun _ T150 Lc150 X150 hQ150 => ?_
      obtain ⟨tb150, kt150, rfl, N150q, K150, gt150, gk150, Eq150, Vq150, Cq150, Dq150, Aq150⟩ := hQ150
      have ne150_x : x ≠ tb150 := Nat.ne_of_lt (Nat.lt_of_lt_of_le (Ex.ext E149).lt gk150)
      have ne150_tx : tx ≠ tb150 := Nat.ne_of_lt (Nat.lt_of_lt_of_le (Kx.ext E149).lt gk150)
      have ne150_b149 : b149 ≠ tb150 := Nat.ne_of_lt (Nat.lt_of_lt_of_le A149.lt gk150)
      have N150 := Fr.app N148 N150q
      show own_Fin p e below _ (T150.setTop (mkF m 82 #[.val (.ref x), .val (.int (Int32.ofNat (Q + 1))), .val (.int (Int32.ofNat ld)), .unset, .unset] [(.ref b149)]))
      refine o_astN X150 H (od dB8 42 rfl) (L' := #[.val (.ref x), .val (.int (Int32.ofNat (Q + 1))), .val (.int (Int32.ofNat ld)), .val (.ref b149), .unset]) rfl rfl ?_
      refine own_on (fun tq => XS.iinc X150.here hx rfl (hb hby (od dB8 43 rfl)) rfl (l' := #[.val (.ref x), .val (.int (Int32.ofNat (Q + 1))), .val (.int ((Int32.ofNat ld) + (1 : Int32))), .val (.ref b149), .unset]) rfl) ?_
      show own_Fin p e below _ (T150.setTop (mkF m 86 #[.val (.ref x), .val (.int (Int32.ofNat (Q + 1))), .val (.int ((Int32.ofNat ld) + (1 : Int32))), .val (.ref b149), .unset] []))
      rw [own_inc]
      show own_Fin p e below _ (T150.setTop (mkF m 86 #[.val (.ref x), .val (.int (Int32.ofNat (Q + 1))), .val (.int (Int32.ofNat (ld + 1 + 0))), .val (.ref b149), .unset] []))
      rcases es with _ | ⟨⟨b0, c0⟩, es0⟩
      · have hP : Q = ld + 1 + 0 := by rw [hQ]; simp only [own_enc, List.length_cons, List.length_nil]
        show own_Fin p e below _ (T150.setTop (mkF m 86 #[.val (.ref x), .val (.int (Int32.ofNat (Q + 1))), .val (.int (Int32.ofNat (ld + 1 + 0))), .val (.ref b149), .unset] []))
        refine o_ildN X150 H (od dB8 44 rfl) rfl ?_
        refine o_ildN X150 H (od dB8 45 rfl) rfl ?_
        refine o_icN X150 H (od dB8 46 rfl) (tlt (own_olt (by omega) (by omega))).2.1 ?_
        refine o_aldN X150 H (od dB8 47 rfl) rfl rfl ?_
        refine o_ildN X150 H (od dB8 48 rfl) rfl ?_
        have vc151 : (own_cs ld ([]) tl).getD (ld + 1 + 0) 0 = (34 : Int32) := (own_mid _ _ _ _).trans rfl
        obtain ⟨cq151, kq151, q151a, q151b, q151c⟩ := isOf hZ rfl ((Ex.ext E149).keep K150)
        obtain ⟨_, _, ⟨T151, L151, k151, n151⟩, -, X151, ⟨Lc151, hQ151, l151, y151, z151⟩, st151⟩ := X150.virtualBack hx (y := (⟨"java/lang/String", "charAt", "(I)C"⟩ : MethodName)) (z := (⟨"java/lang/String", "charAt", "(I)C"⟩ : MethodName)) hown (mvT hZ (ow hw 48 rfl)) (mvT hZ (ow hw 49 rfl)) (notFace_of_selects (args := #[]) (mvT hZ (ow hw 51 rfl))) (mvT hZ (ow hw 51 rfl)) (mvT hZ (ow hw 50 rfl)) (by decide) (StrChars.Road.chN (W := 0) hZ (own_wC hw) (ow hw 6 rfl) ((Ex.ext E149).keep K150) ((Vx.ext E149).keep K150 (ninS ne149_x nin0)) ((Cx.ext E149).keep K150 (ninS ne149_x nin0)) ((Kx.ext E149).keep K150 (ninS ne149_tx nin0)) cod r16 (SC.ext ((O.ext E149).keep K150 (allS gn149 all0)).2) hz (SF.ext ((O.ext E149).keep K150 (allS gn149 all0)).2) hfm (i := ld + 1 + 0) (by rw [own_lenC]; omega) (by rw [own_lenC]; simp only [own_enc, List.length_cons, List.length_nil]; omega) rfl (by decide) (by decide)) q151a q151c (g := (mkF m 93 #[.val (.ref x), .val (.int (Int32.ofNat (Q + 1))), .val (.int (Int32.ofNat (ld + 1 + 0))), .val (.ref b149), .unset] [(.int (Int32.ofNat (ld + 1 + 0))), (.ref x)])) rfl hml.symm (Steps.refl _) (argsL := [(.int (Int32.ofNat (ld + 1 + 0)))]) (rest := []) (lenOf pd_11 rfl) rfl (o_mr rfl) (hb hby (od dB8 49 rfl)) (fun _ _ => ⟨rfl, rfl, (by decide : 2 + 0 ≤ _), (by decide : 20 + 0 ≤ _)⟩)
        dsimp only [Pt.U, Pt.locs, Pt.cells, Pt.slots] at X151 l151 y151 z151 st151 hQ151
        replace l151 := l151.symm; replace y151 := y151.symm; replace z151 := z151.symm; subst l151 y151 z151
        obtain ⟨rfl, rfl, e151⟩ := hQ151
        have N151 := Fr.app N150 (Fr.nil n0)
        rw [vc151] at st151
        refine own_via st151 ?_
        show own_Fin p e below _ (T151.setTop (mkF m 96 #[.val (.ref x), .val (.int (Int32.ofNat (Q + 1))), .val (.int (Int32.ofNat (ld + 1 + 0))), .val (.ref b149), .unset] [(.int (34 : Int32))]))
        refine o_bi X151 H (od dB8 50 rfl) (v := 34) rfl ?_
        refine o_icY X151 H (od dB8 51 rfl) (teq (by decide : (34 : Int32) = (34 : Int32))).1 (pc' := 201) (by decide) (by decide) ?_
        refine o_ildN X151 H (od dB8 99 rfl) rfl ?_
        refine o_ildN X151 H (od dB8 100 rfl) rfl ?_
        refine o_ic X151 H (od dB8 101 rfl) (v := 1) rfl ?_
        refine o_isub X151 H (od dB8 102 rfl) ?_
        rw [own_sub1]
        show own_Fin p e below _ (T151.setTop (mkF m 205 #[.val (.ref x), .val (.int (Int32.ofNat (Q + 1))), .val (.int (Int32.ofNat (ld + 1 + 0))), .val (.ref b149), .unset] [(.int (Int32.ofNat Q)), (.int (Int32.ofNat (ld + 1 + 0)))]))
        refine o_icY X151 H (od dB8 103 rfl) (teq (congrArg Int32.ofNat hP.symm)).1 (pc' := 218) (by decide) (by decide) ?_
        refine o_aldN X151 H (od dB8 109 rfl) rfl rfl ?_
        refine o_vs (argsL := []) (rest := []) X151 H hml hZ hown (ow hw 88 rfl) (ow hw 89 rfl) (ow hw 91 rfl) (ow hw 90 rfl) (backOf (W := 0) (rmTs0 l Z a0 hw [] b149 z tb150 kt150 T150.heap n0 (by exact (Nat.le_trans (Nat.le_trans Z0 E149.1) K150.1)) hz ((O.ext E149).keep K150 (allS gn149 all0)) SC Eq150 Vq150 Cq150 Dq150 Aq150 gn149 gt150 ne150_b149) hZ (ow hw 92 rfl) (ow hw 72 rfl) (by decide) (by decide)) (by decide) Eq150 e151 pd_13 (od dB8 110 rfl) rfl rfl rfl rfl rfl (by decide) (by decide) fun _ T152 Lc152 X152 hQ152 => ?_
        obtain ⟨y152s, x152, kx152, rfl, N152q, K152, gk152, Eq152, Cq152, Vq152, Aq152⟩ := hQ152
        have N152 := Fr.app N151 N152q
        show own_Fin p e below _ (T152.setTop (mkF m 222 #[.val (.ref x), .val (.int (Int32.ofNat (Q + 1))), .val (.int (Int32.ofNat (ld + 1 + 0))), .val (.ref b149), .unset] [(.ref y152s)]))
        exact own_ret (t := (.object "java/lang/String")) X152 hx hlk hret rfl (Or.inr (Or.inr (Or.inr (Or.inr ⟨rfl, rfl, rfl⟩)))) (hb hby (od dB8 111 rfl)) (by show Q8 Z x z fm tx kx ld tl ([]) N2 vs h0 n0 _ T152.heap _; exact ⟨y152s, x152, kx152, rfl, N152, ((((Keep.refl h0 []).ext E149).trans K150 (allS (Or.inr gk149) all0)).trans K152 all0), Eq152, Cq152, Vq152, Aq152⟩) (by decide) (by decide)
      · cases b0
        · have u0 : own_unit (false, c0) := hu _ (List.mem_of_getElem? (i := 0) rfl)
          have hP0 : Q = ld + 1 + 1 + (own_enc es0).length := by rw [hQ]; simp only [own_enc, List.length_cons]; omega
          show own_Fin p e below _ (T150.setTop (mkF m 86 #[.val (.ref x), .val (.int (Int32.ofNat (Q + 1))), .val (.int (Int32.ofNat (ld + 1 + 0))), .val (.ref b149), .unset] []))
          refine o_ildN X150 H (od dB8 44 rfl) rfl ?_
          refine o_ildN X150 H (od dB8 45 rfl) rfl ?_
          refine o_icN X150 H (od dB8 46 rfl) (tlt (own_olt (by omega) (by omega))).2.1 ?_
          refine o_aldN X150 H (od dB8 47 rfl) rfl rfl ?_
          refine o_ildN X150 H (od dB8 48 rfl) rfl ?_
          have vc153 : (own_cs ld ((false, c0) :: es0) tl).getD (ld + 1 + 0) 0 = c0 := (own_mid _ _ _ _).trans rfl
          obtain ⟨cq153, kq153, q153a, q153b, q153c⟩ := isOf hZ rfl ((Ex.ext E149).keep K150)
          obtain ⟨_, _, ⟨T153, L153, k153, n153⟩, -, X153, ⟨Lc153, hQ153, l153, y153, z153⟩, st153⟩ := X150.virtualBack hx (y := (⟨"java/lang/String", "charAt", "(I)C"⟩ : MethodName)) (z := (⟨"java/lang/String", "charAt", "(I)C"⟩ : MethodName)) hown (mvT hZ (ow hw 48 rfl)) (mvT hZ (ow hw 49 rfl)) (notFace_of_selects (args := #[]) (mvT hZ (ow hw 51 rfl))) (mvT hZ (ow hw 51 rfl)) (mvT hZ (ow hw 50 rfl)) (by decide) (StrChars.Road.chN (W := 0) hZ (own_wC hw) (ow hw 6 rfl) ((Ex.ext E149).keep K150) ((Vx.ext E149).keep K150 (ninS ne149_x nin0)) ((Cx.ext E149).keep K150 (ninS ne149_x nin0)) ((Kx.ext E149).keep K150 (ninS ne149_tx nin0)) cod r16 (SC.ext ((O.ext E149).keep K150 (allS gn149 all0)).2) hz (SF.ext ((O.ext E149).keep K150 (allS gn149 all0)).2) hfm (i := ld + 1 + 0) (by rw [own_lenC]; omega) (by rw [own_lenC]; simp only [own_enc, List.length_cons, List.length_nil]; omega) rfl (by decide) (by decide)) q153a q153c (g := (mkF m 93 #[.val (.ref x), .val (.int (Int32.ofNat (Q + 1))), .val (.int (Int32.ofNat (ld + 1 + 0))), .val (.ref b149), .unset] [(.int (Int32.ofNat (ld + 1 + 0))), (.ref x)])) rfl hml.symm (Steps.refl _) (argsL := [(.int (Int32.ofNat (ld + 1 + 0)))]) (rest := []) (lenOf pd_11 rfl) rfl (o_mr rfl) (hb hby (od dB8 49 rfl)) (fun _ _ => ⟨rfl, rfl, (by decide : 2 + 0 ≤ _), (by decide : 20 + 0 ≤ _)⟩)
          dsimp only [Pt.U, Pt.locs, Pt.cells, Pt.slots] at X153 l153 y153 z153 st153 hQ153
          replace l153 := l153.symm; replace y153 := y153.symm; replace z153 := z153.symm; subst l153 y153 z153
          obtain ⟨rfl, rfl, e153⟩ := hQ153
          have N153 := Fr.app N150 (Fr.nil n0)
          rw [vc153] at st153
          refine own_via st153 ?_
          show own_Fin p e below _ (T153.setTop (mkF m 96 #[.val (.ref x), .val (.int (Int32.ofNat (Q + 1))), .val (.int (Int32.ofNat (ld + 1 + 0))), .val (.ref b149), .unset] [(.int c0)]))
          refine o_bi X153 H (od dB8 50 rfl) (v := 34) rfl ?_
          refine o_icN X153 H (od dB8 51 rfl) (feq (own_uf u0).1).1 ?_
          refine o_aldN X153 H (od dB8 52 rfl) rfl rfl ?_
          refine o_ildN X153 H (od dB8 53 rfl) rfl ?_
          have vc154 : (own_cs ld ((false, c0) :: es0) tl).getD (ld + 1 + 0) 0 = c0 := (own_mid _ _ _ _).trans rfl
          obtain ⟨cq154, kq154, q154a, q154b, q154c⟩ := isOf hZ e153 ((Ex.ext E149).keep K150)
          obtain ⟨_, _, ⟨T154, L154, k154, n154⟩, -, X154, ⟨Lc154, hQ154, l154, y154, z154⟩, st154⟩ := X153.virtualBack hx (y := (⟨"java/lang/String", "charAt", "(I)C"⟩ : MethodName)) (z := (⟨"java/lang/String", "charAt", "(I)C"⟩ : MethodName)) hown (mvT hZ (ow hw 48 rfl)) (mvT hZ (ow hw 49 rfl)) (notFace_of_selects (args := #[]) (mvT hZ (ow hw 51 rfl))) (mvT hZ (ow hw 51 rfl)) (mvT hZ (ow hw 50 rfl)) (by decide) (StrChars.Road.chN (W := 0) hZ (own_wC hw) (ow hw 6 rfl) ((Ex.ext E149).keep K150) ((Vx.ext E149).keep K150 (ninS ne149_x nin0)) ((Cx.ext E149).keep K150 (ninS ne149_x nin0)) ((Kx.ext E149).keep K150 (ninS ne149_tx nin0)) cod r16 (SC.ext ((O.ext E149).keep K150 (allS gn149 all0)).2) hz (SF.ext ((O.ext E149).keep K150 (allS gn149 all0)).2) hfm (i := ld + 1 + 0) (by rw [own_lenC]; omega) (by rw [own_lenC]; simp only [own_enc, List.length_cons, List.length_nil]; omega) rfl (by decide) (by decide)) q154a q154c (g := (mkF m 103 #[.val (.ref x), .val (.int (Int32.ofNat (Q + 1))), .val (.int (Int32.ofNat (ld + 1 + 0))), .val (.ref b149), .unset] [(.int (Int32.ofNat (ld + 1 + 0))), (.ref x)])) rfl hml.symm (Steps.refl _) (argsL := [(.int (Int32.ofNat (ld + 1 + 0)))]) (rest := []) (lenOf pd_11 rfl) rfl (o_mr rfl) (hb hby (od dB8 54 rfl)) (fun _ _ => ⟨rfl, e153, (by decide : 2 + 0 ≤ _), (by decide : 20 + 0 ≤ _)⟩)
          dsimp only [Pt.U, Pt.locs, Pt.cells, Pt.slots] at X154 l154 y154 z154 st154 hQ154
          replace l154 := l154.symm; replace y154 := y154.symm; replace z154 := z154.symm; subst l154 y154 z154
          obtain ⟨rfl, rfl, e154⟩ := hQ154
          have N154 := Fr.app N153 (Fr.nil n0)
          rw [vc154] at st154
          refine own_via st154 ?_
          show own_Fin p e below _ (T154.setTop (mkF m 106 #[.val (.ref x), .val (.int (Int32.ofNat (Q + 1))), .val (.int (Int32.ofNat (ld + 1 + 0))), .val (.ref b149), .unset] [(.int c0)]))
          refine o_ist X154 H (od dB8 55 rfl) (L' := #[.val (.ref x), .val (.int (Int32.ofNat (Q + 1))), .val (.int (Int32.ofNat (ld + 1 + 0))), .val (.ref b149), .val (.int c0)]) rfl ?_
          refine o_ild X154 H (od dB8 56 rfl) rfl ?_
          refine o_bi X154 H (od dB8 57 rfl) (v := 92) rfl ?_
          refine o_icY X154 H (od dB8 58 rfl) (feq (own_uf u0).2.1).2 (pc' := 158) (by decide) (by decide) ?_
          refine o_ild X154 H (od dB8 80 rfl) rfl ?_
          refine o_bi X154 H (od dB8 81 rfl) (v := 32) rfl ?_
          refine o_icN X154 H (od dB8 82 rfl) (flt (own_uf u0).2.2.1).1 ?_
          refine o_ild X154 H (od dB8 83 rfl) rfl ?_
          refine o_bi X154 H (od dB8 84 rfl) (v := 126) rfl ?_
          refine o_icY X154 H (od dB8 85 rfl) (flt (own_uf u0).2.2.2).2.2.2 (pc' := 188) (by decide) (by decide) ?_
          refine o_aldN X154 H (od dB8 93 rfl) rfl rfl ?_
          refine o_ild X154 H (od dB8 94 rfl) rfl ?_
          refine o_vs (argsL := [(.int c0)]) (rest := []) X154 H hml hZ hown (ow hw 143 rfl) (ow hw 144 rfl) (ow hw 146 rfl) (ow hw 145 rfl) (backOf (W := 0) (rmPb0 l Z a0 hw [] b149 c0 z tb150 kt150 T150.heap n0 (by exact (Nat.le_trans (Nat.le_trans Z0 E149.1) K150.1)) hz ((O.ext E149).keep K150 (allS gn149 all0)) SC Eq150 Vq150 Cq150 Dq150 Aq150 gn149 gt150 ne150_b149 (own_u255 u0)) hZ (ow hw 147 rfl) (ow hw 72 rfl) (by decide) (by decide)) (by decide) Eq150 e154 pd_14 (od dB8 95 rfl) rfl rfl rfl rfl rfl (by decide) (by decide) fun _ T155 Lc155 X155 hQ155 => ?_
          obtain ⟨rfl, N155q, K155, Eq155, Vq155, Cq155, Dq155, Aq155⟩ := hQ155
          have N155 := Fr.app N154 N155q
          have y156 := ((((Keep.refl h0 []).ext E149).trans K150 (allS (Or.inr gk149) all0)).trans K155 (allS (Or.inr gk149) (allS (Or.inr (Nat.le_trans ((Keep.refl h0 []).ext E149).1 gk150)) all0)))
          show own_Fin p e below _ (T155.setTop (mkF m 194 #[.val (.ref x), .val (.int (Int32.ofNat (Q + 1))), .val (.int (Int32.ofNat (ld + 1 + 0))), .val (.ref b149), .val (.int c0)] [(.ref b149)]))
          refine o_pop X155 H (od dB8 96 rfl) rfl ?_
          refine own_on (fun tq => XS.iinc X155.here hx rfl (hb hby (od dB8 97 rfl)) rfl (l' := #[.val (.ref x), .val (.int (Int32.ofNat (Q + 1))), .val (.int ((Int32.ofNat (ld + 1 + 0)) + (1 : Int32))), .val (.ref b149), .val (.int c0)]) rfl) ?_
          show own_Fin p e below _ (T155.setTop (mkF m 198 #[.val (.ref x), .val (.int (Int32.ofNat (Q + 1))), .val (.int ((Int32.ofNat (ld + 1 + 0)) + (1 : Int32))), .val (.ref b149), .val (.int c0)] []))
          refine o_go X155 H (od dB8 98 rfl) (pc' := 86) (by decide) (by decide) ?_
          rw [own_inc]
          show own_Fin p e below _ (T155.setTop (mkF m 86 #[.val (.ref x), .val (.int (Int32.ofNat (Q + 1))), .val (.int (Int32.ofNat (ld + 1 + 1))), .val (.ref b149), .val (.int c0)] []))
          rcases es0 with _ | ⟨⟨b1, c1⟩, es1⟩
          · have hP : Q = ld + 1 + 1 := by rw [hQ]; simp only [own_enc, List.length_cons, List.length_nil]
            show own_Fin p e below _ (T155.setTop (mkF m 86 #[.val (.ref x), .val (.int (Int32.ofNat (Q + 1))), .val (.int (Int32.ofNat (ld + 1 + 1))), .val (.ref b149), .val (.int c0)] []))
            refine o_ildN X155 H (od dB8 44 rfl) rfl ?_
            refine o_ildN X155 H (od dB8 45 rfl) rfl ?_
            refine o_icN X155 H (od dB8 46 rfl) (tlt (own_olt (by omega) (by omega))).2.1 ?_
            refine o_aldN X155 H (od dB8 47 rfl) rfl rfl ?_
            refine o_ildN X155 H (od dB8 48 rfl) rfl ?_
            have vc157 : (own_cs ld ((false, c0) :: []) tl).getD (ld + 1 + 1) 0 = (34 : Int32) := (own_mid _ _ _ _).trans rfl
            obtain ⟨cq157, kq157, q157a, q157b, q157c⟩ := isOf hZ rfl (((Ex.ext E149).keep K150).keep K155)
            obtain ⟨_, _, ⟨T157, L157, k157, n157⟩, -, X157, ⟨Lc157, hQ157, l157, y157, z157⟩, st157⟩ := X155.virtualBack hx (y := (⟨"java/lang/String", "charAt", "(I)C"⟩ : MethodName)) (z := (⟨"java/lang/String", "charAt", "(I)C"⟩ : MethodName)) hown (mvT hZ (ow hw 48 rfl)) (mvT hZ (ow hw 49 rfl)) (notFace_of_selects (args := #[]) (mvT hZ (ow hw 51 rfl))) (mvT hZ (ow hw 51 rfl)) (mvT hZ (ow hw 50 rfl)) (by decide) (StrChars.Road.chN (W := 0) hZ (own_wC hw) (ow hw 6 rfl) (((Ex.ext E149).keep K150).keep K155) (((Vx.ext E149).keep K150 (ninS ne149_x nin0)).keep K155 (ninS ne149_x (ninS ne150_x nin0))) (((Cx.ext E149).keep K150 (ninS ne149_x nin0)).keep K155 (ninS ne149_x (ninS ne150_x nin0))) (((Kx.ext E149).keep K150 (ninS ne149_tx nin0)).keep K155 (ninS ne149_tx (ninS ne150_tx nin0))) cod r16 (SC.ext (((O.ext E149).keep K150 (allS gn149 all0)).keep K155 (allS gn149 (allS gt150 all0))).2) hz (SF.ext (((O.ext E149).keep K150 (allS gn149 all0)).keep K155 (allS gn149 (allS gt150 all0))).2) hfm (i := ld + 1 + 1) (by rw [own_lenC]; omega) (by rw [own_lenC]; simp only [own_enc, List.length_cons, List.length_nil]; omega) rfl (by decide) (by decide)) q157a q157c (g := (mkF m 93 #[.val (.ref x), .val (.int (Int32.ofNat (Q + 1))), .val (.int (Int32.ofNat (ld + 1 + 1))), .val (.ref b149), .val (.int c0)] [(.int (Int32.ofNat (ld + 1 + 1))), (.ref x)])) rfl hml.symm (Steps.refl _) (argsL := [(.int (Int32.ofNat (ld + 1 + 1)))]) (rest := []) (lenOf pd_11 rfl) rfl (o_mr rfl) (hb hby (od dB8 49 rfl)) (fun _ _ => ⟨rfl, rfl, (by decide : 2 + 0 ≤ _), (by decide : 20 + 0 ≤ _)⟩)
            dsimp only [Pt.U, Pt.locs, Pt.cells, Pt.slots] at X157 l157 y157 z157 st157 hQ157
            replace l157 := l157.symm; replace y157 := y157.symm; replace z157 := z157.symm; subst l157 y157 z157
            obtain ⟨rfl, rfl, e157⟩ := hQ157
            have N157 := Fr.app N155 (Fr.nil n0)
            rw [vc157] at st157
            refine own_via st157 ?_
            show own_Fin p e below _ (T157.setTop (mkF m 96 #[.val (.ref x), .val (.int (Int32.ofNat (Q + 1))), .val (.int (Int32.ofNat (ld + 1 + 1))), .val (.ref b149), .val (.int c0)] [(.int (34 : Int32))]))
            refine o_bi X157 H (od dB8 50 rfl) (v := 34) rfl ?_
            refine o_icY X157 H (od dB8 51 rfl) (teq (by decide : (34 : Int32) = (34 : Int32))).1 (pc' := 201) (by decide) (by decide) ?_
            refine o_ildN X157 H (od dB8 99 rfl) rfl ?_
            refine o_ildN X157 H (od dB8 100 rfl) rfl ?_
            refine o_ic X157 H (od dB8 101 rfl) (v := 1) rfl ?_
            refine o_isub X157 H (od dB8 102 rfl) ?_
            rw [own_sub1]
            show own_Fin p e below _ (T157.setTop (mkF m 205 #[.val (.ref x), .val (.int (Int32.ofNat (Q + 1))), .val (.int (Int32.ofNat (ld + 1 + 1))), .val (.ref b149), .val (.int c0)] [(.int (Int32.ofNat Q)), (.int (Int32.ofNat (ld + 1 + 1)))]))
            refine o_icY X157 H (od dB8 103 rfl) (teq (congrArg Int32.ofNat hP.symm)).1 (pc' := 218) (by decide) (by decide) ?_
            refine o_aldN X157 H (od dB8 109 rfl) rfl rfl ?_
            refine o_vs (argsL := []) (rest := []) X157 H hml hZ hown (ow hw 88 rfl) (ow hw 89 rfl) (ow hw 91 rfl) (ow hw 90 rfl) (backOf (W := 0) (rmTs1 l Z a0 hw [] b149 z tb150 kt150 c0 T155.heap n0 (by exact (Nat.le_trans (Nat.le_trans (Nat.le_trans Z0 E149.1) K150.1) K155.1)) hz (((O.ext E149).keep K150 (allS gn149 all0)).keep K155 (allS gn149 (allS gt150 all0))) SC Eq155 Vq155 Cq155 Dq155 Aq155 gn149 gt150 ne150_b149) hZ (ow hw 92 rfl) (ow hw 72 rfl) (by decide) (by decide)) (by decide) Eq155 e157 pd_13 (od dB8 110 rfl) rfl rfl rfl rfl rfl (by decide) (by decide) fun _ T158 Lc158 X158 hQ158 => ?_
            obtain ⟨y158s, x158, kx158, rfl, N158q, K158, gk158, Eq158, Cq158, Vq158, Aq158⟩ := hQ158
            have N158 := Fr.app N157 N158q
            have y159 := ((((Kx.ext E149).keep K150 (ninS ne149_tx nin0)).keep K155 (ninS ne149_tx (ninS ne150_tx nin0))).keep K158 nin0)
            show own_Fin p e below _ (T158.setTop (mkF m 222 #[.val (.ref x), .val (.int (Int32.ofNat (Q + 1))), .val (.int (Int32.ofNat (ld + 1 + 1))), .val (.ref b149), .val (.int c0)] [(.ref y158s)]))
            exact own_ret (t := (.object "java/lang/String")) X158 hx hlk hret rfl (Or.inr (Or.inr (Or.inr (Or.inr ⟨rfl, rfl, rfl⟩)))) (hb hby (od dB8 111 rfl)) (by show Q8 Z x z fm tx kx ld tl ((false, c0) :: []) N2 vs h0 n0 _ T158.heap _; exact ⟨y158s, x158, kx158, rfl, N158, (y156.trans K158 all0), Eq158, Cq158, Vq158, Aq158⟩) (by decide) (by decide)
          · cases b1
            · have u1 : own_unit (false, c1) := hu _ (List.mem_of_getElem? (i := 1) rfl)
              have hP1 : Q = ld + 1 + 2 + (own_enc es1).length := by rw [hQ]; simp only [own_enc, List.length_cons]; omega
              show own_Fin p e below _ (T155.setTop (mkF m 86 #[.val (.ref x), .val (.int (Int32.ofNat (Q + 1))), .val (.int (Int32.ofNat (ld + 1 + 1))), .val (.ref b149), .val (.int c0)] []))
              refine o_ildN X155 H (od dB8 44 rfl) rfl ?_
              refine o_ildN X155 H (od dB8 45 rfl) rfl ?_
              refine o_icN X155 H (od dB8 46 rfl) (tlt (own_olt (by omega) (by omega))).2.1 ?_
              refine o_aldN X155 H (od dB8 47 rfl) rfl rfl ?_
              refine o_ildN X155 H (od dB8 48 rfl) rfl ?_
              have vc160 : (own_cs ld ((false, c0) :: (false, c1) :: es1) tl).getD (ld + 1 + 1) 0 = c1 := (own_mid _ _ _ _).trans rfl
              obtain ⟨cq160, kq160, q160a, q160b, q160c⟩ := isOf hZ rfl (((Ex.ext E149).keep K150).keep K155)
              obtain ⟨_, _, ⟨T160, L160, k160, n160⟩, -, X160, ⟨Lc160, hQ160, l160, y160, z160⟩, st160⟩ := X155.virtualBack hx (y := (⟨"java/lang/String", "charAt", "(I)C"⟩ : MethodName)) (z := (⟨"java/lang/String", "charAt", "(I)C"⟩ : MethodName)) hown (mvT hZ (ow hw 48 rfl)) (mvT hZ (ow hw 49 rfl)) (notFace_of_selects (args := #[]) (mvT hZ (ow hw 51 rfl))) (mvT hZ (ow hw 51 rfl)) (mvT hZ (ow hw 50 rfl)) (by decide) (StrChars.Road.chN (W := 0) hZ (own_wC hw) (ow hw 6 rfl) (((Ex.ext E149).keep K150).keep K155) (((Vx.ext E149).keep K150 (ninS ne149_x nin0)).keep K155 (ninS ne149_x (ninS ne150_x nin0))) (((Cx.ext E149).keep K150 (ninS ne149_x nin0)).keep K155 (ninS ne149_x (ninS ne150_x nin0))) (((Kx.ext E149).keep K150 (ninS ne149_tx nin0)).keep K155 (ninS ne149_tx (ninS ne150_tx nin0))) cod r16 (SC.ext (((O.ext E149).keep K150 (allS gn149 all0)).keep K155 (allS gn149 (allS gt150 all0))).2) hz (SF.ext (((O.ext E149).keep K150 (allS gn149 all0)).keep K155 (allS gn149 (allS gt150 all0))).2) hfm (i := ld + 1 + 1) (by rw [own_lenC]; omega) (by rw [own_lenC]; simp only [own_enc, List.length_cons, List.length_nil]; omega) rfl (by decide) (by decide)) q160a q160c (g := (mkF m 93 #[.val (.ref x), .val (.int (Int32.ofNat (Q + 1))), .val (.int (Int32.ofNat (ld + 1 + 1))), .val (.ref b149), .val (.int c0)] [(.int (Int32.ofNat (ld + 1 + 1))), (.ref x)])) rfl hml.symm (Steps.refl _) (argsL := [(.int (Int32.ofNat (ld + 1 + 1)))]) (rest := []) (lenOf pd_11 rfl) rfl (o_mr rfl) (hb hby (od dB8 49 rfl)) (fun _ _ => ⟨rfl, rfl, (by decide : 2 + 0 ≤ _), (by decide : 20 + 0 ≤ _)⟩)
              dsimp only [Pt.U, Pt.locs, Pt.cells, Pt.slots] at X160 l160 y160 z160 st160 hQ160
              replace l160 := l160.symm; replace y160 := y160.symm; replace z160 := z160.symm; subst l160 y160 z160
              obtain ⟨rfl, rfl, e160⟩ := hQ160
              have N160 := Fr.app N155 (Fr.nil n0)
              rw [vc160] at st160
              refine own_via st160 ?_
              show own_Fin p e below _ (T160.setTop (mkF m 96 #[.val (.ref x), .val (.int (Int32.ofNat (Q + 1))), .val (.int (Int32.ofNat (ld + 1 + 1))), .val (.ref b149), .val (.int c0)] [(.int c1)]))
              refine o_bi X160 H (od dB8 50 rfl) (v := 34) rfl ?_
              refine o_icN X160 H (od dB8 51 rfl) (feq (own_uf u1).1).1 ?_
              refine o_aldN X160 H (od dB8 52 rfl) rfl rfl ?_
              refine o_ildN X160 H (od dB8 53 rfl) rfl ?_
              have vc161 : (own_cs ld ((false, c0) :: (false, c1) :: es1) tl).getD (ld + 1 + 1) 0 = c1 := (own_mid _ _ _ _).trans rfl
              obtain ⟨cq161, kq161, q161a, q161b, q161c⟩ := isOf hZ e160 (((Ex.ext E149).keep K150).keep K155)
              obtain ⟨_, _, ⟨T161, L161, k161, n161⟩, -, X161, ⟨Lc161, hQ161, l161, y161, z161⟩, st161⟩ := X160.virtualBack hx (y := (⟨"java/lang/String", "charAt", "(I)C"⟩ : MethodName)) (z := (⟨"java/lang/String", "charAt", "(I)C"⟩ : MethodName)) hown (mvT hZ (ow hw 48 rfl)) (mvT hZ (ow hw 49 rfl)) (notFace_of_selects (args := #[]) (mvT hZ (ow hw 51 rfl))) (mvT hZ (ow hw 51 rfl)) (mvT hZ (ow hw 50 rfl)) (by decide) (StrChars.Road.chN (W := 0) hZ (own_wC hw) (ow hw 6 rfl) (((Ex.ext E149).keep K150).keep K155) (((Vx.ext E149).keep K150 (ninS ne149_x nin0)).keep K155 (ninS ne149_x (ninS ne150_x nin0))) (((Cx.ext E149).keep K150 (ninS ne149_x nin0)).keep K155 (ninS ne149_x (ninS ne150_x nin0))) (((Kx.ext E149).keep K150 (ninS ne149_tx nin0)).keep K155 (ninS ne149_tx (ninS ne150_tx nin0))) cod r16 (SC.ext (((O.ext E149).keep K150 (allS gn149 all0)).keep K155 (allS gn149 (allS gt150 all0))).2) hz (SF.ext (((O.ext E149).keep K150 (allS gn149 all0)).keep K155 (allS gn149 (allS gt150 all0))).2) hfm (i := ld + 1 + 1) (by rw [own_lenC]; omega) (by rw [own_lenC]; simp only [own_enc, List.length_cons, List.length_nil]; omega) rfl (by decide) (by decide)) q161a q161c (g := (mkF m 103 #[.val (.ref x), .val (.int (Int32.ofNat (Q + 1))), .val (.int (Int32.ofNat (ld + 1 + 1))), .val (.ref b149), .val (.int c0)] [(.int (Int32.ofNat (ld + 1 + 1))), (.ref x)])) rfl hml.symm (Steps.refl _) (argsL := [(.int (Int32.ofNat (ld + 1 + 1)))]) (rest := []) (lenOf pd_11 rfl) rfl (o_mr rfl) (hb hby (od dB8 54 rfl)) (fun _ _ => ⟨rfl, e160, (by decide : 2 + 0 ≤ _), (by decide : 20 + 0 ≤ _)⟩)
              dsimp only [Pt.U, Pt.locs, Pt.cells, Pt.slots] at X161 l161 y161 z161 st161 hQ161
              replace l161 := l161.symm; replace y161 := y161.symm; replace z161 := z161.symm; subst l161 y161 z161
              obtain ⟨rfl, rfl, e161⟩ := hQ161
              have N161 := Fr.app N160 (Fr.nil n0)
              rw [vc161] at st161
              refine own_via st161 ?_
              show own_Fin p e below _ (T161.setTop (mkF m 106 #[.val (.ref x), .val (.int (Int32.ofNat (Q + 1))), .val (.int (Int32.ofNat (ld + 1 + 1))), .val (.ref b149), .val (.int c0)] [(.int c1)]))
              refine o_ist X161 H (od dB8 55 rfl) (L' := #[.val (.ref x), .val (.int (Int32.ofNat (Q + 1))), .val (.int (Int32.ofNat (ld + 1 + 1))), .val (.ref b149), .val (.int c1)]) rfl ?_
              refine o_ild X161 H (od dB8 56 rfl) rfl ?_
              refine o_bi X161 H (od dB8 57 rfl) (v := 92) rfl ?_
              refine o_icY X161 H (od dB8 58 rfl) (feq (own_uf u1).2.1).2 (pc' := 158) (by decide) (by decide) ?_
              refine o_ild X161 H (od dB8 80 rfl) rfl ?_
              refine o_bi X161 H (od dB8 81 rfl) (v := 32) rfl ?_
              refine o_icN X161 H (od dB8 82 rfl) (flt (own_uf u1).2.2.1).1 ?_
              refine o_ild X161 H (od dB8 83 rfl) rfl ?_
              refine o_bi X161 H (od dB8 84 rfl) (v := 126) rfl ?_
              refine o_icY X161 H (od dB8 85 rfl) (flt (own_uf u1).2.2.2).2.2.2 (pc' := 188) (by decide) (by decide) ?_
              refine o_aldN X161 H (od dB8 93 rfl) rfl rfl ?_
              refine o_ild X161 H (od dB8 94 rfl) rfl ?_
              refine o_vs (argsL := [(.int c1)]) (rest := []) X161 H hml hZ hown (ow hw 143 rfl) (ow hw 144 rfl) (ow hw 146 rfl) (ow hw 145 rfl) (backOf (W := 0) (rmPb1 l Z a0 hw [] b149 c1 z tb150 kt150 c0 T155.heap n0 (by exact (Nat.le_trans (Nat.le_trans (Nat.le_trans Z0 E149.1) K150.1) K155.1)) hz (((O.ext E149).keep K150 (allS gn149 all0)).keep K155 (allS gn149 (allS gt150 all0))) SC Eq155 Vq155 Cq155 Dq155 Aq155 gn149 gt150 ne150_b149 (own_u255 u1)) hZ (ow hw 147 rfl) (ow hw 72 rfl) (by decide) (by decide)) (by decide) Eq155 e161 pd_14 (od dB8 95 rfl) rfl rfl rfl rfl rfl (by decide) (by decide) fun _ T162 Lc162 X162 hQ162 => ?_
              obtain ⟨rfl, N162q, K162, Eq162, Vq162, Cq162, Dq162, Aq162⟩ := hQ162
              have N162 := Fr.app N161 N162q
              have y163 := (y156.trans K162 (allS (Or.inr gk149) (allS (Or.inr (Nat.le_trans ((Keep.refl h0 []).ext E149).1 gk150)) all0)))
              have y164 := ((((O.ext E149).keep K150 (allS gn149 all0)).keep K155 (allS gn149 (allS gt150 all0))).keep K162 (allS gn149 (allS gt150 all0)))
              have y165 := ((((Vx.ext E149).keep K150 (ninS ne149_x nin0)).keep K155 (ninS ne149_x (ninS ne150_x nin0))).keep K162 (ninS ne149_x (ninS ne150_x nin0)))
              have y166 := ((((Cx.ext E149).keep K150 (ninS ne149_x nin0)).keep K155 (ninS ne149_x (ninS ne150_x nin0))).keep K162 (ninS ne149_x (ninS ne150_x nin0)))
              have y167 := ((((Kx.ext E149).keep K150 (ninS ne149_tx nin0)).keep K155 (ninS ne149_tx (ninS ne150_tx nin0))).keep K162 (ninS ne149_tx (ninS ne150_tx nin0)))
              show own_Fin p e below _ (T162.setTop (mkF m 194 #[.val (.ref x), .val (.int (Int32.ofNat (Q + 1))), .val (.int (Int32.ofNat (ld + 1 + 1))), .val (.ref b149), .val (.int c1)] [(.ref b149)]))
              refine o_pop X162 H (od dB8 96 rfl) rfl ?_
              refine own_on (fun tq => XS.iinc X162.here hx rfl (hb hby (od dB8 97 rfl)) rfl (l' := #[.val (.ref x), .val (.int (Int32.ofNat (Q + 1))), .val (.int ((Int32.ofNat (ld + 1 + 1)) + (1 : Int32))), .val (.ref b149), .val (.int c1)]) rfl) ?_
              show own_Fin p e below _ (T162.setTop (mkF m 198 #[.val (.ref x), .val (.int (Int32.ofNat (Q + 1))), .val (.int ((Int32.ofNat (ld + 1 + 1)) + (1 : Int32))), .val (.ref b149), .val (.int c1)] []))
              refine o_go X162 H (od dB8 98 rfl) (pc' := 86) (by decide) (by decide) ?_
              rw [own_inc]
              show own_Fin p e below _ (T162.setTop (mkF m 86 #[.val (.ref x), .val (.int (Int32.ofNat (Q + 1))), .val (.int (Int32.ofNat (ld + 1 + 2))), .val (.ref b149), .val (.int c1)] []))
              rcases es1 with _ | ⟨⟨b2, c2⟩, es2⟩
              · have hP : Q = ld + 1 + 2 := by rw [hQ]; simp only [own_enc, List.length_cons, List.length_nil]
                show own_Fin p e below _ (T162.setTop (mkF m 86 #[.val (.ref x), .val (.int (Int32.ofNat (Q + 1))), .val (.int (Int32.ofNat (ld + 1 + 2))), .val (.ref b149), .val (.int c1)] []))
                refine o_ildN X162 H (od dB8 44 rfl) rfl ?_
                refine o_ildN X162 H (od dB8 45 rfl) rfl ?_
                refine o_icN X162 H (od dB8 46 rfl) (tlt (own_olt (by omega) (by omega))).2.1 ?_
                refine o_aldN X162 H (od dB8 47 rfl) rfl rfl ?_
                refine o_ildN X162 H (od dB8 48 rfl) rfl ?_
                have vc168 : (own_cs ld ((false, c0) :: (false, c1) :: []) tl).getD (ld + 1 + 2) 0 = (34 : Int32) := (own_mid _ _ _ _).trans rfl
                obtain ⟨cq168, kq168, q168a, q168b, q168c⟩ := isOf hZ rfl ((((Ex.ext E149).keep K150).keep K155).keep K162)
                obtain ⟨_, _, ⟨T168, L168, k168, n168⟩, -, X168, ⟨Lc168, hQ168, l168, y168, z168⟩, st168⟩ := X162.virtualBack hx (y := (⟨"java/lang/String", "charAt", "(I)C"⟩ : MethodName)) (z := (⟨"java/lang/String", "charAt", "(I)C"⟩ : MethodName)) hown (mvT hZ (ow hw 48 rfl)) (mvT hZ (ow hw 49 rfl)) (notFace_of_selects (args := #[]) (mvT hZ (ow hw 51 rfl))) (mvT hZ (ow hw 51 rfl)) (mvT hZ (ow hw 50 rfl)) (by decide) (StrChars.Road.chN (W := 0) hZ (own_wC hw) (ow hw 6 rfl) ((((Ex.ext E149).keep K150).keep K155).keep K162) y165 y166 y167 cod r16 (SC.ext y164.2) hz (SF.ext y164.2) hfm (i := ld + 1 + 2) (by rw [own_lenC]; omega) (by rw [own_lenC]; simp only [own_enc, List.length_cons, List.length_nil]; omega) rfl (by decide) (by decide)) q168a q168c (g := (mkF m 93 #[.val (.ref x), .val (.int (Int32.ofNat (Q + 1))), .val (.int (Int32.ofNat (ld + 1 + 2))), .val (.ref b149), .val (.int c1)] [(.int (Int32.ofNat (ld + 1 + 2))), (.ref x)])) rfl hml.symm (Steps.refl _) (argsL := [(.int (Int32.ofNat (ld + 1 + 2)))]) (rest := []) (lenOf pd_11 rfl) rfl (o_mr rfl) (hb hby (od dB8 49 rfl)) (fun _ _ => ⟨rfl, rfl, (by decide : 2 + 0 ≤ _), (by decide : 20 + 0 ≤ _)⟩)
                dsimp only [Pt.U, Pt.locs, Pt.cells, Pt.slots] at X168 l168 y168 z168 st168 hQ168
                replace l168 := l168.symm; replace y168 := y168.symm; replace z168 := z168.symm; subst l168 y168 z168
                obtain ⟨rfl, rfl, e168⟩ := hQ168
                have N168 := Fr.app N162 (Fr.nil n0)
                rw [vc168] at st168
                refine own_via st168 ?_
                show own_Fin p e below _ (T168.setTop (mkF m 96 #[.val (.ref x), .val (.int (Int32.ofNat (Q + 1))), .val (.int (Int32.ofNat (ld + 1 + 2))), .val (.ref b149), .val (.int c1)] [(.int (34 : Int32))]))
                refine o_bi X168 H (od dB8 50 rfl) (v := 34) rfl ?_
                refine o_icY X168 H (od dB8 51 rfl) (teq (by decide : (34 : Int32) = (34 : Int32))).1 (pc' := 201) (by decide) (by decide) ?_
                refine o_ildN X168 H (od dB8 99 rfl) rfl ?_
                refine o_ildN X168 H (od dB8 100 rfl) rfl ?_
                refine o_ic X168 H (od dB8 101 rfl) (v := 1) rfl ?_
                refine o_isub X168 H (od dB8 102 rfl) ?_
                rw [own_sub1]
                show own_Fin p e below _ (T168.setTop (mkF m 205 #[.val (.ref x), .val (.int (Int32.ofNat (Q + 1))), .val (.int (Int32.ofNat (ld + 1 + 2))), .val (.ref b149), .val (.int c1)] [(.int (Int32.ofNat Q)), (.int (Int32.ofNat (ld + 1 + 2)))]))
                refine o_icY X168 H (od dB8 103 rfl) (teq (congrArg Int32.ofNat hP.symm)).1 (pc' := 218) (by decide) (by decide) ?_
                refine o_aldN X168 H (od dB8 109 rfl) rfl rfl ?_
                refine o_vs (argsL := []) (rest := []) X168 H hml hZ hown (ow hw 88 rfl) (ow hw 89 rfl) (ow hw 91 rfl) (ow hw 90 rfl) (backOf (W := 0) (rmTs2 l Z a0 hw [] b149 z tb150 kt150 c0 c1 T162.heap n0 (by exact (Nat.le_trans (Nat.le_trans (Nat.le_trans (Nat.le_trans Z0 E149.1) K150.1) K155.1) K162.1)) hz y164 SC Eq162 Vq162 Cq162 Dq162 Aq162 gn149 gt150 ne150_b149) hZ (ow hw 92 rfl) (ow hw 72 rfl) (by decide) (by decide)) (by decide) Eq162 e168 pd_13 (od dB8 110 rfl) rfl rfl rfl rfl rfl (by decide) (by decide) fun _ T169 Lc169 X169 hQ169 => ?_
                obtain ⟨y169s, x169, kx169, rfl, N169q, K169, gk169, Eq169, Cq169, Vq169, Aq169⟩ := hQ169
                have N169 := Fr.app N168 N169q
                have y170 := (Nat.le_trans (Nat.le_trans (Nat.le_trans (Nat.le_trans (Nat.le_trans Z0 E149.1) K150.1) K155.1) K162.1) K169.1)
                show own_Fin p e below _ (T169.setTop (mkF m 222 #[.val (.ref x), .val (.int (Int32.ofNat (Q + 1))), .val (.int (Int32.ofNat (ld + 1 + 2))), .val (.ref b149), .val (.int c1)] [(.ref y169s)]))
                exact own_ret (t := (.object "java/lang/String")) X169 hx hlk hret rfl (Or.inr (Or.inr (Or.inr (Or.inr ⟨rfl, rfl, rfl⟩)))) (hb hby (od dB8 111 rfl)) (by show Q8 Z x z fm tx kx ld tl ((false, c0) :: (false, c1) :: []) N2 vs h0 n0 _ T169.heap _; exact ⟨y169s, x169, kx169, rfl, N169, (y163.trans K169 all0), Eq169, Cq169, Vq169, Aq169⟩) (by decide) (by decide)
              · cases b2
                · have u2 : own_unit (false, c2) := hu _ (List.mem_of_getElem? (i := 2) rfl)
                  have hP2 : Q = ld + 1 + 3 + (own_enc es2).length := by rw [hQ]; simp only [own_enc, List.length_cons]; omega
                  show own_Fin p e below _ (T162.setTop (mkF m 86 #[.val (.ref x), .val (.int (Int32.ofNat (Q + 1))), .val (.int (Int32.ofNat (ld + 1 + 2))), .val (.ref b149), .val (.int c1)] []))
                  refine o_ildN X162 H (od dB8 44 rfl) rfl ?_
                  refine o_ildN X162 H (od dB8 45 rfl) rfl ?_
                  refine o_icN X162 H (od dB8 46 rfl) (tlt (own_olt (by omega) (by omega))).2.1 ?_
                  refine o_aldN X162 H (od dB8 47 rfl) rfl rfl ?_
                  refine o_ildN X162 H (od dB8 48 rfl) rfl ?_
                  have vc171 : (own_cs ld ((false, c0) :: (false, c1) :: (false, c2) :: es2) tl).getD (ld + 1 + 2) 0 = c2 := (own_mid _ _ _ _).trans rfl
                  obtain ⟨cq171, kq171, q171a, q171b, q171c⟩ := isOf hZ rfl ((((Ex.ext E149).keep K150).keep K155).keep K162)
                  obtain ⟨_, _, ⟨T171, L171, k171, n171⟩, -, X171, ⟨Lc171, hQ171, l171, y171, z171⟩, st171⟩ := X162.virtualBack hx (y := (⟨"java/lang/String", "charAt", "(I)C"⟩ : MethodName)) (z := (⟨"java/lang/String", "charAt", "(I)C"⟩ : MethodName)) hown (mvT hZ (ow hw 48 rfl)) (mvT hZ (ow hw 49 rfl)) (notFace_of_selects (args := #[]) (mvT hZ (ow hw 51 rfl))) (mvT hZ (ow hw 51 rfl)) (mvT hZ (ow hw 50 rfl)) (by decide) (StrChars.Road.chN (W := 0) hZ (own_wC hw) (ow hw 6 rfl) ((((Ex.ext E149).keep K150).keep K155).keep K162) y165 y166 y167 cod r16 (SC.ext y164.2) hz (SF.ext y164.2) hfm (i := ld + 1 + 2) (by rw [own_lenC]; omega) (by rw [own_lenC]; simp only [own_enc, List.length_cons, List.length_nil]; omega) rfl (by decide) (by decide)) q171a q171c (g := (mkF m 93 #[.val (.ref x), .val (.int (Int32.ofNat (Q + 1))), .val (.int (Int32.ofNat (ld + 1 + 2))), .val (.ref b149), .val (.int c1)] [(.int (Int32.ofNat (ld + 1 + 2))), (.ref x)])) rfl hml.symm (Steps.refl _) (argsL := [(.int (Int32.ofNat (ld + 1 + 2)))]) (rest := []) (lenOf pd_11 rfl) rfl (o_mr rfl) (hb hby (od dB8 49 rfl)) (fun _ _ => ⟨rfl, rfl, (by decide : 2 + 0 ≤ _), (by decide : 20 + 0 ≤ _)⟩)
                  dsimp only [Pt.U, Pt.locs, Pt.cells, Pt.slots] at X171 l171 y171 z171 st171 hQ171
                  replace l171 := l171.symm; replace y171 := y171.symm; replace z171 := z171.symm; subst l171 y171 z171
                  obtain ⟨rfl, rfl, e171⟩ := hQ171
                  have N171 := Fr.app N162 (Fr.nil n0)
                  rw [vc171] at st171
                  refine own_via st171 ?_
                  show own_Fin p e below _ (T171.setTop (mkF m 96 #[.val (.ref x), .val (.int (Int32.ofNat (Q + 1))), .val (.int (Int32.ofNat (ld + 1 + 2))), .val (.ref b149), .val (.int c1)] [(.int c2)]))
                  refine o_bi X171 H (od dB8 50 rfl) (v := 34) rfl ?_
                  refine o_icN X171 H (od dB8 51 rfl) (feq (own_uf u2).1).1 ?_
                  refine o_aldN X171 H (od dB8 52 rfl) rfl rfl ?_
                  refine o_ildN X171 H (od dB8 53 rfl) rfl ?_
                  have vc172 : (own_cs ld ((false, c0) :: (false, c1) :: (false, c2) :: es2) tl).getD (ld + 1 + 2) 0 = c2 := (own_mid _ _ _ _).trans rfl
                  obtain ⟨cq172, kq172, q172a, q172b, q172c⟩ := isOf hZ e171 ((((Ex.ext E149).keep K150).keep K155).keep K162)
                  obtain ⟨_, _, ⟨T172, L172, k172, n172⟩, -, X172, ⟨Lc172, hQ172, l172, y172, z172⟩, st172⟩ := X171.virtualBack hx (y := (⟨"java/lang/String", "charAt", "(I)C"⟩ : MethodName)) (z := (⟨"java/lang/String", "charAt", "(I)C"⟩ : MethodName)) hown (mvT hZ (ow hw 48 rfl)) (mvT hZ (ow hw 49 rfl)) (notFace_of_selects (args := #[]) (mvT hZ (ow hw 51 rfl))) (mvT hZ (ow hw 51 rfl)) (mvT hZ (ow hw 50 rfl)) (by decide) (StrChars.Road.chN (W := 0) hZ (own_wC hw) (ow hw 6 rfl) ((((Ex.ext E149).keep K150).keep K155).keep K162) y165 y166 y167 cod r16 (SC.ext y164.2) hz (SF.ext y164.2) hfm (i := ld + 1 + 2) (by rw [own_lenC]; omega) (by rw [own_lenC]; simp only [own_enc, List.length_cons, List.length_nil]; omega) rfl (by decide) (by decide)) q172a q172c (g := (mkF m 103 #[.val (.ref x), .val (.int (Int32.ofNat (Q + 1))), .val (.int (Int32.ofNat (ld + 1 + 2))), .val (.ref b149), .val (.int c1)] [(.int (Int32.ofNat (ld + 1 + 2))), (.ref x)])) rfl hml.symm (Steps.refl _) (argsL := [(.int (Int32.ofNat (ld + 1 + 2)))]) (rest := []) (lenOf pd_11 rfl) rfl (o_mr rfl) (hb hby (od dB8 54 rfl)) (fun _ _ => ⟨rfl, e171, (by decide : 2 + 0 ≤ _), (by decide : 20 + 0 ≤ _)⟩)
                  dsimp only [Pt.U, Pt.locs, Pt.cells, Pt.slots] at X172 l172 y172 z172 st172 hQ172
                  replace l172 := l172.symm; replace y172 := y172.symm; replace z172 := z172.symm; subst l172 y172 z172
                  obtain ⟨rfl, rfl, e172⟩ := hQ172
                  have N172 := Fr.app N171 (Fr.nil n0)
                  rw [vc172] at st172
                  refine own_via st172 ?_
                  show own_Fin p e below _ (T172.setTop (mkF m 106 #[.val (.ref x), .val (.int (Int32.ofNat (Q + 1))), .val (.int (Int32.ofNat (ld + 1 + 2))), .val (.ref b149), .val (.int c1)] [(.int c2)]))
                  refine o_ist X172 H (od dB8 55 rfl) (L' := #[.val (.ref x), .val (.int (Int32.ofNat (Q + 1))), .val (.int (Int32.ofNat (ld + 1 + 2))), .val (.ref b149), .val (.int c2)]) rfl ?_
                  refine o_ild X172 H (od dB8 56 rfl) rfl ?_
                  refine o_bi X172 H (od dB8 57 rfl) (v := 92) rfl ?_
                  refine o_icY X172 H (od dB8 58 rfl) (feq (own_uf u2).2.1).2 (pc' := 158) (by decide) (by decide) ?_
                  refine o_ild X172 H (od dB8 80 rfl) rfl ?_
                  refine o_bi X172 H (od dB8 81 rfl) (v := 32) rfl ?_
                  refine o_icN X172 H (od dB8 82 rfl) (flt (own_uf u2).2.2.1).1 ?_
                  refine o_ild X172 H (od dB8 83 rfl) rfl ?_
                  refine o_bi X172 H (od dB8 84 rfl) (v := 126) rfl ?_
                  refine o_icY X172 H (od dB8 85 rfl) (flt (own_uf u2).2.2.2).2.2.2 (pc' := 188) (by decide) (by decide) ?_
                  refine o_aldN X172 H (od dB8 93 rfl) rfl rfl ?_
                  refine o_ild X172 H (od dB8 94 rfl) rfl ?_
                  refine o_vs (argsL := [(.int c2)]) (rest := []) X172 H hml hZ hown (ow hw 143 rfl) (ow hw 144 rfl) (ow hw 146 rfl) (ow hw 145 rfl) (backOf (W := 0) (rmPb2 l Z a0 hw [] b149 c2 z tb150 kt150 c0 c1 T162.heap n0 (by exact (Nat.le_trans (Nat.le_trans (Nat.le_trans (Nat.le_trans Z0 E149.1) K150.1) K155.1) K162.1)) hz y164 SC Eq162 Vq162 Cq162 Dq162 Aq162 gn149 gt150 ne150_b149 (own_u255 u2)) hZ (ow hw 147 rfl) (ow hw 72 rfl) (by decide) (by decide)) (by decide) Eq162 e172 pd_14 (od dB8 95 rfl) rfl rfl rfl rfl rfl (by decide) (by decide) fun _ T173 Lc173 X173 hQ173 => ?_
                  obtain ⟨rfl, N173q, K173, Eq173, Vq173, Cq173, Dq173, Aq173⟩ := hQ173
                  have N173 := Fr.app N172 N173q
                  have y174 := (y163.trans K173 (allS (Or.inr gk149) (allS (Or.inr (Nat.le_trans ((Keep.refl h0 []).ext E149).1 gk150)) all0)))
                  have y175 := (Nat.le_trans (Nat.le_trans (Nat.le_trans (Nat.le_trans (Nat.le_trans Z0 E149.1) K150.1) K155.1) K162.1) K173.1)
                  show own_Fin p e below _ (T173.setTop (mkF m 194 #[.val (.ref x), .val (.int (Int32.ofNat (Q + 1))), .val (.int (Int32.ofNat (ld + 1 + 2))), .val (.ref b149), .val (.int c2)] [(.ref b149)]))
                  refine o_pop X173 H (od dB8 96 rfl) rfl ?_
                  refine own_on (fun tq => XS.iinc X173.here hx rfl (hb hby (od dB8 97 rfl)) rfl (l' := #[.val (.ref x), .val (.int (Int32.ofNat (Q + 1))), .val (.int ((Int32.ofNat (ld + 1 + 2)) + (1 : Int32))), .val (.ref b149), .val (.int c2)]) rfl) ?_
                  show own_Fin p e below _ (T173.setTop (mkF m 198 #[.val (.ref x), .val (.int (Int32.ofNat (Q + 1))), .val (.int ((Int32.ofNat (ld + 1 + 2)) + (1 : Int32))), .val (.ref b149), .val (.int c2)] []))
                  refine o_go X173 H (od dB8 98 rfl) (pc' := 86) (by decide) (by decide) ?_
                  rw [own_inc]
                  show own_Fin p e below _ (T173.setTop (mkF m 86 #[.val (.ref x), .val (.int (Int32.ofNat (Q + 1))), .val (.int (Int32.ofNat (ld + 1 + 3))), .val (.ref b149), .val (.int c2)] []))
                  rcases es2 with _ | ⟨⟨b3, c3⟩, es3⟩
                  · have hP : Q = ld + 1 + 3 := by rw [hQ]; simp only [own_enc, List.length_cons, List.length_nil]
                    show own_Fin p e below _ (T173.setTop (mkF m 86 #[.val (.ref x), .val (.int (Int32.ofNat (Q + 1))), .val (.int (Int32.ofNat (ld + 1 + 3))), .val (.ref b149), .val (.int c2)] []))
                    refine o_ildN X173 H (od dB8 44 rfl) rfl ?_
                    refine o_ildN X173 H (od dB8 45 rfl) rfl ?_
                    refine o_icN X173 H (od dB8 46 rfl) (tlt (own_olt (by omega) (by omega))).2.1 ?_
                    refine o_aldN X173 H (od dB8 47 rfl) rfl rfl ?_
                    refine o_ildN X173 H (od dB8 48 rfl) rfl ?_
                    have vc176 : (own_cs ld ((false, c0) :: (false, c1) :: (false, c2) :: []) tl).getD (ld + 1 + 3) 0 = (34 : Int32) := (own_mid _ _ _ _).trans rfl
                    obtain ⟨cq176, kq176, q176a, q176b, q176c⟩ := isOf hZ rfl (((((Ex.ext E149).keep K150).keep K155).keep K162).keep K173)
                    obtain ⟨_, _, ⟨T176, L176, k176, n176⟩, -, X176, ⟨Lc176, hQ176, l176, y176, z176⟩, st176⟩ := X173.virtualBack hx (y := (⟨"java/lang/String", "charAt", "(I)C"⟩ : MethodName)) (z := (⟨"java/lang/String", "charAt", "(I)C"⟩ : MethodName)) hown (mvT hZ (ow hw 48 rfl)) (mvT hZ (ow hw 49 rfl)) (notFace_of_selects (args := #[]) (mvT hZ (ow hw 51 rfl))) (mvT hZ (ow hw 51 rfl)) (mvT hZ (ow hw 50 rfl)) (by decide) (StrChars.Road.chN (W := 0) hZ (own_wC hw) (ow hw 6 rfl) (((((Ex.ext E149).keep K150).keep K155).keep K162).keep K173) (y165.keep K173 (ninS ne149_x (ninS ne150_x nin0))) (y166.keep K173 (ninS ne149_x (ninS ne150_x nin0))) (y167.keep K173 (ninS ne149_tx (ninS ne150_tx nin0))) cod r16 (SC.ext (y164.keep K173 (allS gn149 (allS gt150 all0))).2) hz (SF.ext (y164.keep K173 (allS gn149 (allS gt150 all0))).2) hfm (i := ld + 1 + 3) (by rw [own_lenC]; omega) (by rw [own_lenC]; simp only [own_enc, List.length_cons, List.length_nil]; omega) rfl (by decide) (by decide)) q176a q176c (g := (mkF m 93 #[.val (.ref x), .val (.int (Int32.ofNat (Q + 1))), .val (.int (Int32.ofNat (ld + 1 + 3))), .val (.ref b149), .val (.int c2)] [(.int (Int32.ofNat (ld + 1 + 3))), (.ref x)])) rfl hml.symm (Steps.refl _) (argsL := [(.int (Int32.ofNat (ld + 1 + 3)))]) (rest := []) (lenOf pd_11 rfl) rfl (o_mr rfl) (hb hby (od dB8 49 rfl)) (fun _ _ => ⟨rfl, rfl, (by decide : 2 + 0 ≤ _), (by decide : 20 + 0 ≤ _)⟩)
                    dsimp only [Pt.U, Pt.locs, Pt.cells, Pt.slots] at X176 l176 y176 z176 st176 hQ176
                    replace l176 := l176.symm; replace y176 := y176.symm; replace z176 := z176.symm; subst l176 y176 z176
                    obtain ⟨rfl, rfl, e176⟩ := hQ176
                    have N176 := Fr.app N173 (Fr.nil n0)
                    rw [vc176] at st176
                    refine own_via st176 ?_
                    show own_Fin p e below _ (T176.setTop (mkF m 96 #[.val (.ref x), .val (.int (Int32.ofNat (Q + 1))), .val (.int (Int32.ofNat (ld + 1 + 3))), .val (.ref b149), .val (.int c2)] [(.int (34 : Int32))]))
                    refine o_bi X176 H (od dB8 50 rfl) (v := 34) rfl ?_
                    refine o_icY X176 H (od dB8 51 rfl) (teq (by decide : (34 : Int32) = (34 : Int32))).1 (pc' := 201) (by decide) (by decide) ?_
                    refine o_ildN X176 H (od dB8 99 rfl) rfl ?_
                    refine o_ildN X176 H (od dB8 100 rfl) rfl ?_
                    refine o_ic X176 H (od dB8 101 rfl) (v := 1) rfl ?_
                    refine o_isub X176 H (od dB8 102 rfl) ?_
                    rw [own_sub1]
                    show own_Fin p e below _ (T176.setTop (mkF m 205 #[.val (.ref x), .val (.int (Int32.ofNat (Q + 1))), .val (.int (Int32.ofNat (ld + 1 + 3))), .val (.ref b149), .val (.int c2)] [(.int (Int32.ofNat Q)), (.int (Int32.ofNat (ld + 1 + 3)))]))
                    refine o_icY X176 H (od dB8 103 rfl) (teq (congrArg Int32.ofNat hP.symm)).1 (pc' := 218) (by decide) (by decide) ?_
                    refine o_aldN X176 H (od dB8 109 rfl) rfl rfl ?_
                    refine o_vs (argsL := []) (rest := []) X176 H hml hZ hown (ow hw 88 rfl) (ow hw 89 rfl) (ow hw 91 rfl) (ow hw 90 rfl) (backOf (W := 0) (rmTs3 l Z a0 hw [] b149 z tb150 kt150 c0 c1 c2 T173.heap n0 (by exact y175) hz (y164.keep K173 (allS gn149 (allS gt150 all0))) SC Eq173 Vq173 Cq173 Dq173 Aq173 gn149 gt150 ne150_b149) hZ (ow hw 92 rfl) (ow hw 72 rfl) (by decide) (by decide)) (by decide) Eq173 e176 pd_13 (od dB8 110 rfl) rfl rfl rfl rfl rfl (by decide) (by decide) fun _ T177 Lc177 X177 hQ177 => ?_
                    obtain ⟨y177s, x177, kx177, rfl, N177q, K177, gk177, Eq177, Cq177, Vq177, Aq177⟩ := hQ177
                    have N177 := Fr.app N176 N177q
                    show own_Fin p e below _ (T177.setTop (mkF m 222 #[.val (.ref x), .val (.int (Int32.ofNat (Q + 1))), .val (.int (Int32.ofNat (ld + 1 + 3))), .val (.ref b149), .val (.int c2)] [(.ref y177s)]))
                    exact own_ret (t := (.object "java/lang/String")) X177 hx hlk hret rfl (Or.inr (Or.inr (Or.inr (Or.inr ⟨rfl, rfl, rfl⟩)))) (hb hby (od dB8 111 rfl)) (by show Q8 Z x z fm tx kx ld tl ((false, c0) :: (false, c1) :: (false, c2) :: []) N2 vs h0 n0 _ T177.heap _; exact ⟨y177s, x177, kx177, rfl, N177, (y174.trans K177 all0), Eq177, Cq177, Vq177, Aq177⟩) (by decide) (by decide)
                  · exact absurd hes (by simp)
                · have u2 : own_unit (true, c2) := hu _ (List.mem_of_getElem? (i := 2) rfl)
                  have hP2 : Q = ld + 1 + 4 + (own_enc es2).length := by rw [hQ]; simp only [own_enc, List.length_cons]; omega
                  show own_Fin p e below _ (T162.setTop (mkF m 86 #[.val (.ref x), .val (.int (Int32.ofNat (Q + 1))), .val (.int (Int32.ofNat (ld + 1 + 2))), .val (.ref b149), .val (.int c1)] []))
                  refine o_ildN X162 H (od dB8 44 rfl) rfl ?_
                  refine o_ildN X162 H (od dB8 45 rfl) rfl ?_
                  refine o_icN X162 H (od dB8 46 rfl) (tlt (own_olt (by omega) (by omega))).2.1 ?_
                  refine o_aldN X162 H (od dB8 47 rfl) rfl rfl ?_
                  refine o_ildN X162 H (od dB8 48 rfl) rfl ?_
                  have vc178 : (own_cs ld ((false, c0) :: (false, c1) :: (true, c2) :: es2) tl).getD (ld + 1 + 2) 0 = (92 : Int32) := (own_mid _ _ _ _).trans rfl
                  obtain ⟨cq178, kq178, q178a, q178b, q178c⟩ := isOf hZ rfl ((((Ex.ext E149).keep K150).keep K155).keep K162)
                  obtain ⟨_, _, ⟨T178, L178, k178, n178⟩, -, X178, ⟨Lc178, hQ178, l178, y178, z178⟩, st178⟩ := X162.virtualBack hx (y := (⟨"java/lang/String", "charAt", "(I)C"⟩ : MethodName)) (z := (⟨"java/lang/String", "charAt", "(I)C"⟩ : MethodName)) hown (mvT hZ (ow hw 48 rfl)) (mvT hZ (ow hw 49 rfl)) (notFace_of_selects (args := #[]) (mvT hZ (ow hw 51 rfl))) (mvT hZ (ow hw 51 rfl)) (mvT hZ (ow hw 50 rfl)) (by decide) (StrChars.Road.chN (W := 0) hZ (own_wC hw) (ow hw 6 rfl) ((((Ex.ext E149).keep K150).keep K155).keep K162) y165 y166 y167 cod r16 (SC.ext y164.2) hz (SF.ext y164.2) hfm (i := ld + 1 + 2) (by rw [own_lenC]; omega) (by rw [own_lenC]; simp only [own_enc, List.length_cons, List.length_nil]; omega) rfl (by decide) (by decide)) q178a q178c (g := (mkF m 93 #[.val (.ref x), .val (.int (Int32.ofNat (Q + 1))), .val (.int (Int32.ofNat (ld + 1 + 2))), .val (.ref b149), .val (.int c1)] [(.int (Int32.ofNat (ld + 1 + 2))), (.ref x)])) rfl hml.symm (Steps.refl _) (argsL := [(.int (Int32.ofNat (ld + 1 + 2)))]) (rest := []) (lenOf pd_11 rfl) rfl (o_mr rfl) (hb hby (od dB8 49 rfl)) (fun _ _ => ⟨rfl, rfl, (by decide : 2 + 0 ≤ _), (by decide : 20 + 0 ≤ _)⟩)
                  dsimp only [Pt.U, Pt.locs, Pt.cells, Pt.slots] at X178 l178 y178 z178 st178 hQ178
                  replace l178 := l178.symm; replace y178 := y178.symm; replace z178 := z178.symm; subst l178 y178 z178
                  obtain ⟨rfl, rfl, e178⟩ := hQ178
                  have N178 := Fr.app N162 (Fr.nil n0)
                  rw [vc178] at st178
                  refine own_via st178 ?_
                  show own_Fin p e below _ (T178.setTop (mkF m 96 #[.val (.ref x), .val (.int (Int32.ofNat (Q + 1))), .val (.int (Int32.ofNat (ld + 1 + 2))), .val (.ref b149), .val (.int c1)] [(.int (92 : Int32))]))
                  refine o_bi X178 H (od dB8 50 rfl) (v := 34) rfl ?_
                  refine o_icN X178 H (od dB8 51 rfl) (feq (by decide : ¬ ((92 : Int32) = (34 : Int32)))).1 ?_
                  refine o_aldN X178 H (od dB8 52 rfl) rfl rfl ?_
                  refine o_ildN X178 H (od dB8 53 rfl) rfl ?_
                  have vc179 : (own_cs ld ((false, c0) :: (false, c1) :: (true, c2) :: es2) tl).getD (ld + 1 + 2) 0 = (92 : Int32) := (own_mid _ _ _ _).trans rfl
                  obtain ⟨cq179, kq179, q179a, q179b, q179c⟩ := isOf hZ e178 ((((Ex.ext E149).keep K150).keep K155).keep K162)
                  obtain ⟨_, _, ⟨T179, L179, k179, n179⟩, -, X179, ⟨Lc179, hQ179, l179, y179, z179⟩, st179⟩ := X178.virtualBack hx (y := (⟨"java/lang/String", "charAt", "(I)C"⟩ : MethodName)) (z := (⟨"java/lang/String", "charAt", "(I)C"⟩ : MethodName)) hown (mvT hZ (ow hw 48 rfl)) (mvT hZ (ow hw 49 rfl)) (notFace_of_selects (args := #[]) (mvT hZ (ow hw 51 rfl))) (mvT hZ (ow hw 51 rfl)) (mvT hZ (ow hw 50 rfl)) (by decide) (StrChars.Road.chN (W := 0) hZ (own_wC hw) (ow hw 6 rfl) ((((Ex.ext E149).keep K150).keep K155).keep K162) y165 y166 y167 cod r16 (SC.ext y164.2) hz (SF.ext y164.2) hfm (i := ld + 1 + 2) (by rw [own_lenC]; omega) (by rw [own_lenC]; simp only [own_enc, List.length_cons, List.length_nil]; omega) rfl (by decide) (by decide)) q179a q179c (g := (mkF m 103 #[.val (.ref x), .val (.int (Int32.ofNat (Q + 1))), .val (.int (Int32.ofNat (ld + 1 + 2))), .val (.ref b149), .val (.int c1)] [(.int (Int32.ofNat (ld + 1 + 2))), (.ref x)])) rfl hml.symm (Steps.refl _) (argsL := [(.int (Int32.ofNat (ld + 1 + 2)))]) (rest := []) (lenOf pd_11 rfl) rfl (o_mr rfl) (hb hby (od dB8 54 rfl)) (fun _ _ => ⟨rfl, e178, (by decide : 2 + 0 ≤ _), (by decide : 20 + 0 ≤ _)⟩)
                  dsimp only [Pt.U, Pt.locs, Pt.cells, Pt.slots] at X179 l179 y179 z179 st179 hQ179
                  replace l179 := l179.symm; replace y179 := y179.symm; replace z179 := z179.symm; subst l179 y179 z179
                  obtain ⟨rfl, rfl, e179⟩ := hQ179
                  have N179 := Fr.app N178 (Fr.nil n0)
                  rw [vc179] at st179
                  refine own_via st179 ?_
                  show own_Fin p e below _ (T179.setTop (mkF m 106 #[.val (.ref x), .val (.int (Int32.ofNat (Q + 1))), .val (.int (Int32.ofNat (ld + 1 + 2))), .val (.ref b149), .val (.int c1)] [(.int (92 : Int32))]))
                  refine o_ist X179 H (od dB8 55 rfl) (L' := #[.val (.ref x), .val (.int (Int32.ofNat (Q + 1))), .val (.int (Int32.ofNat (ld + 1 + 2))), .val (.ref b149), .val (.int (92 : Int32))]) rfl ?_
                  refine o_ild X179 H (od dB8 56 rfl) rfl ?_
                  refine o_bi X179 H (od dB8 57 rfl) (v := 92) rfl ?_
                  refine o_icN X179 H (od dB8 58 rfl) (teq (by decide : (92 : Int32) = (92 : Int32))).2 ?_
                  refine own_on (fun tq => XS.iinc X179.here hx rfl (hb hby (od dB8 59 rfl)) rfl (l' := #[.val (.ref x), .val (.int (Int32.ofNat (Q + 1))), .val (.int ((Int32.ofNat (ld + 1 + 2)) + (1 : Int32))), .val (.ref b149), .val (.int (92 : Int32))]) rfl) ?_
                  show own_Fin p e below _ (T179.setTop (mkF m 118 #[.val (.ref x), .val (.int (Int32.ofNat (Q + 1))), .val (.int ((Int32.ofNat (ld + 1 + 2)) + (1 : Int32))), .val (.ref b149), .val (.int (92 : Int32))] []))
                  rw [own_inc]
                  show own_Fin p e below _ (T179.setTop (mkF m 118 #[.val (.ref x), .val (.int (Int32.ofNat (Q + 1))), .val (.int (Int32.ofNat (ld + 1 + 3))), .val (.ref b149), .val (.int (92 : Int32))] []))
                  refine o_ildN X179 H (od dB8 60 rfl) rfl ?_
                  refine o_ildN X179 H (od dB8 61 rfl) rfl ?_
                  refine o_icN X179 H (od dB8 62 rfl) (tlt (own_olt (by omega) (by omega))).2.1 ?_
                  refine o_aldN X179 H (od dB8 63 rfl) rfl rfl ?_
                  refine o_ildN X179 H (od dB8 64 rfl) rfl ?_
                  have vc180 : (own_cs ld ((false, c0) :: (false, c1) :: (true, c2) :: es2) tl).getD (ld + 1 + 3) 0 = c2 := (own_mid _ _ _ _).trans rfl
                  obtain ⟨cq180, kq180, q180a, q180b, q180c⟩ := isOf hZ e179 ((((Ex.ext E149).keep K150).keep K155).keep K162)
                  obtain ⟨_, _, ⟨T180, L180, k180, n180⟩, -, X180, ⟨Lc180, hQ180, l180, y180, z180⟩, st180⟩ := X179.virtualBack hx (y := (⟨"java/lang/String", "charAt", "(I)C"⟩ : MethodName)) (z := (⟨"java/lang/String", "charAt", "(I)C"⟩ : MethodName)) hown (mvT hZ (ow hw 48 rfl)) (mvT hZ (ow hw 49 rfl)) (notFace_of_selects (args := #[]) (mvT hZ (ow hw 51 rfl))) (mvT hZ (ow hw 51 rfl)) (mvT hZ (ow hw 50 rfl)) (by decide) (StrChars.Road.chN (W := 0) hZ (own_wC hw) (ow hw 6 rfl) ((((Ex.ext E149).keep K150).keep K155).keep K162) y165 y166 y167 cod r16 (SC.ext y164.2) hz (SF.ext y164.2) hfm (i := ld + 1 + 3) (by rw [own_lenC]; omega) (by rw [own_lenC]; simp only [own_enc, List.length_cons, List.length_nil]; omega) rfl (by decide) (by decide)) q180a q180c (g := (mkF m 125 #[.val (.ref x), .val (.int (Int32.ofNat (Q + 1))), .val (.int (Int32.ofNat (ld + 1 + 3))), .val (.ref b149), .val (.int (92 : Int32))] [(.int (Int32.ofNat (ld + 1 + 3))), (.ref x)])) rfl hml.symm (Steps.refl _) (argsL := [(.int (Int32.ofNat (ld + 1 + 3)))]) (rest := []) (lenOf pd_11 rfl) rfl (o_mr rfl) (hb hby (od dB8 65 rfl)) (fun _ _ => ⟨rfl, e179, (by decide : 2 + 0 ≤ _), (by decide : 20 + 0 ≤ _)⟩)
                  dsimp only [Pt.U, Pt.locs, Pt.cells, Pt.slots] at X180 l180 y180 z180 st180 hQ180
                  replace l180 := l180.symm; replace y180 := y180.symm; replace z180 := z180.symm; subst l180 y180 z180
                  obtain ⟨rfl, rfl, e180⟩ := hQ180
                  have N180 := Fr.app N179 (Fr.nil n0)
                  rw [vc180] at st180
                  refine own_via st180 ?_
                  show own_Fin p e below _ (T180.setTop (mkF m 128 #[.val (.ref x), .val (.int (Int32.ofNat (Q + 1))), .val (.int (Int32.ofNat (ld + 1 + 3))), .val (.ref b149), .val (.int (92 : Int32))] [(.int c2)]))
                  refine o_go X180 H (od dB8 66 rfl) (pc' := 132) (by decide) (by decide) ?_
                  refine o_ist X180 H (od dB8 68 rfl) (L' := #[.val (.ref x), .val (.int (Int32.ofNat (Q + 1))), .val (.int (Int32.ofNat (ld + 1 + 3))), .val (.ref b149), .val (.int c2)]) rfl ?_
                  refine own_merge (B := (T180.setTop (mkF m 188 #[.val (.ref x), .val (.int (Int32.ofNat (Q + 1))), .val (.int (Int32.ofNat (ld + 1 + 3))), .val (.ref b149), .val (.int c2)] []))) ?_ (fun HM => ?_)
                  · show own_Fin p e below _ (T180.setTop (mkF m 188 #[.val (.ref x), .val (.int (Int32.ofNat (Q + 1))), .val (.int (Int32.ofNat (ld + 1 + 3))), .val (.ref b149), .val (.int c2)] []))
                    refine o_aldN X180 H (od dB8 93 rfl) rfl rfl ?_
                    refine o_ild X180 H (od dB8 94 rfl) rfl ?_
                    refine o_vs (argsL := [(.int c2)]) (rest := []) X180 H hml hZ hown (ow hw 143 rfl) (ow hw 144 rfl) (ow hw 146 rfl) (ow hw 145 rfl) (backOf (W := 0) (rmPb2 l Z a0 hw [] b149 c2 z tb150 kt150 c0 c1 T162.heap n0 (by exact (Nat.le_trans (Nat.le_trans (Nat.le_trans (Nat.le_trans Z0 E149.1) K150.1) K155.1) K162.1)) hz y164 SC Eq162 Vq162 Cq162 Dq162 Aq162 gn149 gt150 ne150_b149 (own_u255 u2)) hZ (ow hw 147 rfl) (ow hw 72 rfl) (by decide) (by decide)) (by decide) Eq162 e180 pd_14 (od dB8 95 rfl) rfl rfl rfl rfl rfl (by decide) (by decide) fun _ T181 Lc181 X181 hQ181 => ?_
                    obtain ⟨rfl, N181q, K181, Eq181, Vq181, Cq181, Dq181, Aq181⟩ := hQ181
                    have N181 := Fr.app N180 N181q
                    have y182 := (y163.trans K181 (allS (Or.inr gk149) (allS (Or.inr (Nat.le_trans ((Keep.refl h0 []).ext E149).1 gk150)) all0)))
                    have y183 := (Nat.le_trans (Nat.le_trans (Nat.le_trans (Nat.le_trans (Nat.le_trans Z0 E149.1) K150.1) K155.1) K162.1) K181.1)
                    show own_Fin p e below _ (T181.setTop (mkF m 194 #[.val (.ref x), .val (.int (Int32.ofNat (Q + 1))), .val (.int (Int32.ofNat (ld + 1 + 3))), .val (.ref b149), .val (.int c2)] [(.ref b149)]))
                    refine o_pop X181 H (od dB8 96 rfl) rfl ?_
                    refine own_on (fun tq => XS.iinc X181.here hx rfl (hb hby (od dB8 97 rfl)) rfl (l' := #[.val (.ref x), .val (.int (Int32.ofNat (Q + 1))), .val (.int ((Int32.ofNat (ld + 1 + 3)) + (1 : Int32))), .val (.ref b149), .val (.int c2)]) rfl) ?_
                    show own_Fin p e below _ (T181.setTop (mkF m 198 #[.val (.ref x), .val (.int (Int32.ofNat (Q + 1))), .val (.int ((Int32.ofNat (ld + 1 + 3)) + (1 : Int32))), .val (.ref b149), .val (.int c2)] []))
                    refine o_go X181 H (od dB8 98 rfl) (pc' := 86) (by decide) (by decide) ?_
                    rw [own_inc]
                    show own_Fin p e below _ (T181.setTop (mkF m 86 #[.val (.ref x), .val (.int (Int32.ofNat (Q + 1))), .val (.int (Int32.ofNat (ld + 1 + 4))), .val (.ref b149), .val (.int c2)] []))
                    rcases es2 with _ | ⟨⟨b3, c3⟩, es3⟩
                    · have hP : Q = ld + 1 + 4 := by rw [hQ]; simp only [own_enc, List.length_cons, List.length_nil]
                      show own_Fin p e below _ (T181.setTop (mkF m 86 #[.val (.ref x), .val (.int (Int32.ofNat (Q + 1))), .val (.int (Int32.ofNat (ld + 1 + 4))), .val (.ref b149), .val (.int c2)] []))
                      refine o_ildN X181 H (od dB8 44 rfl) rfl ?_
                      refine o_ildN X181 H (od dB8 45 rfl) rfl ?_
                      refine o_icN X181 H (od dB8 46 rfl) (tlt (own_olt (by omega) (by omega))).2.1 ?_
                      refine o_aldN X181 H (od dB8 47 rfl) rfl rfl ?_
                      refine o_ildN X181 H (od dB8 48 rfl) rfl ?_
                      have vc184 : (own_cs ld ((false, c0) :: (false, c1) :: (true, c2) :: []) tl).getD (ld + 1 + 4) 0 = (34 : Int32) := (own_mid _ _ _ _).trans rfl
                      obtain ⟨cq184, kq184, q184a, q184b, q184c⟩ := isOf hZ rfl (((((Ex.ext E149).keep K150).keep K155).keep K162).keep K181)
                      obtain ⟨_, _, ⟨T184, L184, k184, n184⟩, -, X184, ⟨Lc184, hQ184, l184, y184, z184⟩, st184⟩ := X181.virtualBack hx (y := (⟨"java/lang/String", "charAt", "(I)C"⟩ : MethodName)) (z := (⟨"java/lang/String", "charAt", "(I)C"⟩ : MethodName)) hown (mvT hZ (ow hw 48 rfl)) (mvT hZ (ow hw 49 rfl)) (notFace_of_selects (args := #[]) (mvT hZ (ow hw 51 rfl))) (mvT hZ (ow hw 51 rfl)) (mvT hZ (ow hw 50 rfl)) (by decide) (StrChars.Road.chN (W := 0) hZ (own_wC hw) (ow hw 6 rfl) (((((Ex.ext E149).keep K150).keep K155).keep K162).keep K181) (y165.keep K181 (ninS ne149_x (ninS ne150_x nin0))) (y166.keep K181 (ninS ne149_x (ninS ne150_x nin0))) (y167.keep K181 (ninS ne149_tx (ninS ne150_tx nin0))) cod r16 (SC.ext (y164.keep K181 (allS gn149 (allS gt150 all0))).2) hz (SF.ext (y164.keep K181 (allS gn149 (allS gt150 all0))).2) hfm (i := ld + 1 + 4) (by rw [own_lenC]; omega) (by rw [own_lenC]; simp only [own_enc, List.length_cons, List.length_nil]; omega) rfl (by decide) (by decide)) q184a q184c (g := (mkF m 93 #[.val (.ref x), .val (.int (Int32.ofNat (Q + 1))), .val (.int (Int32.ofNat (ld + 1 + 4))), .val (.ref b149), .val (.int c2)] [(.int (Int32.ofNat (ld + 1 + 4))), (.ref x)])) rfl hml.symm (Steps.refl _) (argsL := [(.int (Int32.ofNat (ld + 1 + 4)))]) (rest := []) (lenOf pd_11 rfl) rfl (o_mr rfl) (hb hby (od dB8 49 rfl)) (fun _ _ => ⟨rfl, rfl, (by decide : 2 + 0 ≤ _), (by decide : 20 + 0 ≤ _)⟩)
                      dsimp only [Pt.U, Pt.locs, Pt.cells, Pt.slots] at X184 l184 y184 z184 st184 hQ184
                      replace l184 := l184.symm; replace y184 := y184.symm; replace z184 := z184.symm; subst l184 y184 z184
                      obtain ⟨rfl, rfl, e184⟩ := hQ184
                      have N184 := Fr.app N181 (Fr.nil n0)
                      rw [vc184] at st184
                      refine own_via st184 ?_
                      show own_Fin p e below _ (T184.setTop (mkF m 96 #[.val (.ref x), .val (.int (Int32.ofNat (Q + 1))), .val (.int (Int32.ofNat (ld + 1 + 4))), .val (.ref b149), .val (.int c2)] [(.int (34 : Int32))]))
                      refine o_bi X184 H (od dB8 50 rfl) (v := 34) rfl ?_
                      refine o_icY X184 H (od dB8 51 rfl) (teq (by decide : (34 : Int32) = (34 : Int32))).1 (pc' := 201) (by decide) (by decide) ?_
                      refine o_ildN X184 H (od dB8 99 rfl) rfl ?_
                      refine o_ildN X184 H (od dB8 100 rfl) rfl ?_
                      refine o_ic X184 H (od dB8 101 rfl) (v := 1) rfl ?_
                      refine o_isub X184 H (od dB8 102 rfl) ?_
                      rw [own_sub1]
                      show own_Fin p e below _ (T184.setTop (mkF m 205 #[.val (.ref x), .val (.int (Int32.ofNat (Q + 1))), .val (.int (Int32.ofNat (ld + 1 + 4))), .val (.ref b149), .val (.int c2)] [(.int (Int32.ofNat Q)), (.int (Int32.ofNat (ld + 1 + 4)))]))
                      refine o_icY X184 H (od dB8 103 rfl) (teq (congrArg Int32.ofNat hP.symm)).1 (pc' := 218) (by decide) (by decide) ?_
                      refine o_aldN X184 H (od dB8 109 rfl) rfl rfl ?_
                      refine o_vs (argsL := []) (rest := []) X184 H hml hZ hown (ow hw 88 rfl) (ow hw 89 rfl) (ow hw 91 rfl) (ow hw 90 rfl) (backOf (W := 0) (rmTs3 l Z a0 hw [] b149 z tb150 kt150 c0 c1 c2 T181.heap n0 (by exact y183) hz (y164.keep K181 (allS gn149 (allS gt150 all0))) SC Eq181 Vq181 Cq181 Dq181 Aq181 gn149 gt150 ne150_b149) hZ (ow hw 92 rfl) (ow hw 72 rfl) (by decide) (by decide)) (by decide) Eq181 e184 pd_13 (od dB8 110 rfl) rfl rfl rfl rfl rfl (by decide) (by decide) fun _ T185 Lc185 X185 hQ185 => ?_
                      obtain ⟨y185s, x185, kx185, rfl, N185q, K185, gk185, Eq185, Cq185, Vq185, Aq185⟩ := hQ185
                      have N185 := Fr.app N184 N185q
                      show own_Fin p e below _ (T185.setTop (mkF m 222 #[.val (.ref x), .val (.int (Int32.ofNat (Q + 1))), .val (.int (Int32.ofNat (ld + 1 + 4))), .val (.ref b149), .val (.int c2)] [(.ref y185s)]))
                      exact own_ret (t := (.object "java/lang/String")) X185 hx hlk hret rfl (Or.inr (Or.inr (Or.inr (Or.inr ⟨rfl, rfl, rfl⟩)))) (hb hby (od dB8 111 rfl)) (by show Q8 Z x z fm tx kx ld tl ((false, c0) :: (false, c1) :: (true, c2) :: []) N2 vs h0 n0 _ T185.heap _; exact ⟨y185s, x185, kx185, rfl, N185, (y182.trans K185 all0), Eq185, Cq185, Vq185, Aq185⟩) (by decide) (by decide)
                    · exact absurd hes (by simp)
                  · show own_Fin p e below _ (T180.setTop (mkF m 134 #[.val (.ref x), .val (.int (Int32.ofNat (Q + 1))), .val (.int (Int32.ofNat (ld + 1 + 3))), .val (.ref b149), .val (.int c2)] []))
                    refine o_ild X180 H (od dB8 69 rfl) rfl ?_
                    refine o_bi X180 H (od dB8 70 rfl) (v := 34) rfl ?_
                    by_cases hc186 : c2 = (34 : Int32)
                    · refine o_icY X180 H (od dB8 71 rfl) (teq hc186).1 (pc' := 188) (by decide) (by decide) ?_
                      exact HM
                    · refine o_icN X180 H (od dB8 71 rfl) (feq hc186).1 ?_
                      refine o_ild X180 H (od dB8 72 rfl) rfl ?_
                      refine o_bi X180 H (od dB8 73 rfl) (v := 92) rfl ?_
                      refine o_icY X180 H (od dB8 74 rfl) (teq (own_or2 u2 hc186)).1 (pc' := 188) (by decide) (by decide) ?_
                      exact HM
            · have u1 : own_unit (true, c1) := hu _ (List.mem_of_getElem? (i := 1) rfl)
              have hP1 : Q = ld + 1 + 3 + (own_enc es1).length := by rw [hQ]; simp only [own_enc, List.length_cons]; omega
              show own_Fin p e below _ (T155.setTop (mkF m 86 #[.val (.ref x), .val (.int (Int32.ofNat (Q + 1))), .val (.int (Int32.ofNat (ld + 1 + 1))), .val (.ref b149), .val (.int c0)] []))
              refine o_ildN X155 H (od dB8 44 rfl) rfl ?_
              refine o_ildN X155 H (od dB8 45 rfl) rfl ?_
              refine o_icN X155 H (od dB8 46 rfl) (tlt (own_olt (by omega) (by omega))).2.1 ?_
              refine o_aldN X155 H (od dB8 47 rfl) rfl rfl ?_
              refine o_ildN X155 H (od dB8 48 rfl) rfl ?_
              have vc187 : (own_cs ld ((false, c0) :: (true, c1) :: es1) tl).getD (ld + 1 + 1) 0 = (92 : Int32) := (own_mid _ _ _ _).trans rfl
              obtain ⟨cq187, kq187, q187a, q187b, q187c⟩ := isOf hZ rfl (((Ex.ext E149).keep K150).keep K155)
              obtain ⟨_, _, ⟨T187, L187, k187, n187⟩, -, X187, ⟨Lc187, hQ187, l187, y187, z187⟩, st187⟩ := X155.virtualBack hx (y := (⟨"java/lang/String", "charAt", "(I)C"⟩ : MethodName)) (z := (⟨"java/lang/String", "charAt", "(I)C"⟩ : MethodName)) hown (mvT hZ (ow hw 48 rfl)) (mvT hZ (ow hw 49 rfl)) (notFace_of_selects (args := #[]) (mvT hZ (ow hw 51 rfl))) (mvT hZ (ow hw 51 rfl)) (mvT hZ (ow hw 50 rfl)) (by decide) (StrChars.Road.chN (W := 0) hZ (own_wC hw) (ow hw 6 rfl) (((Ex.ext E149).keep K150).keep K155) (((Vx.ext E149).keep K150 (ninS ne149_x nin0)).keep K155 (ninS ne149_x (ninS ne150_x nin0))) (((Cx.ext E149).keep K150 (ninS ne149_x nin0)).keep K155 (ninS ne149_x (ninS ne150_x nin0))) (((Kx.ext E149).keep K150 (ninS ne149_tx nin0)).keep K155 (ninS ne149_tx (ninS ne150_tx nin0))) cod r16 (SC.ext (((O.ext E149).keep K150 (allS gn149 all0)).keep K155 (allS gn149 (allS gt150 all0))).2) hz (SF.ext (((O.ext E149).keep K150 (allS gn149 all0)).keep K155 (allS gn149 (allS gt150 all0))).2) hfm (i := ld + 1 + 1) (by rw [own_lenC]; omega) (by rw [own_lenC]; simp only [own_enc, List.length_cons, List.length_nil]; omega) rfl (by decide) (by decide)) q187a q187c (g := (mkF m 93 #[.val (.ref x), .val (.int (Int32.ofNat (Q + 1))), .val (.int (Int32.ofNat (ld + 1 + 1))), .val (.ref b149), .val (.int c0)] [(.int (Int32.ofNat (ld + 1 + 1))), (.ref x)])) rfl hml.symm (Steps.refl _) (argsL := [(.int (Int32.ofNat (ld + 1 + 1)))]) (rest := []) (lenOf pd_11 rfl) rfl (o_mr rfl) (hb hby (od dB8 49 rfl)) (fun _ _ => ⟨rfl, rfl, (by decide : 2 + 0 ≤ _), (by decide : 20 + 0 ≤ _)⟩)
              dsimp only [Pt.U, Pt.locs, Pt.cells, Pt.slots] at X187 l187 y187 z187 st187 hQ187
              replace l187 := l187.symm; replace y187 := y187.symm; replace z187 := z187.symm; subst l187 y187 z187
              obtain ⟨rfl, rfl, e187⟩ := hQ187
              have N187 := Fr.app N155 (Fr.nil n0)
              rw [vc187] at st187
              refine own_via st187 ?_
              show own_Fin p e below _ (T187.setTop (mkF m 96 #[.val (.ref x), .val (.int (Int32.ofNat (Q + 1))), .val (.int (Int32.ofNat (ld + 1 + 1))), .val (.ref b149), .val (.int c0)] [(.int (92 : Int32))]))
              refine o_bi X187 H (od dB8 50 rfl) (v := 34) rfl ?_
              refine o_icN X187 H (od dB8 51 rfl) (feq (by decide : ¬ ((92 : Int32) = (34 : Int32)))).1 ?_
              refine o_aldN X187 H (od dB8 52 rfl) rfl rfl ?_
              refine o_ildN X187 H (od dB8 53 rfl) rfl ?_
              have vc188 : (own_cs ld ((false, c0) :: (true, c1) :: es1) tl).getD (ld + 1 + 1) 0 = (92 : Int32) := (own_mid _ _ _ _).trans rfl
              obtain ⟨cq188, kq188, q188a, q188b, q188c⟩ := isOf hZ e187 (((Ex.ext E149).keep K150).keep K155)
              obtain ⟨_, _, ⟨T188, L188, k188, n188⟩, -, X188, ⟨Lc188, hQ188, l188, y188, z188⟩, st188⟩ := X187.virtualBack hx (y := (⟨"java/lang/String", "charAt", "(I)C"⟩ : MethodName)) (z := (⟨"java/lang/String", "charAt", "(I)C"⟩ : MethodName)) hown (mvT hZ (ow hw 48 rfl)) (mvT hZ (ow hw 49 rfl)) (notFace_of_selects (args := #[]) (mvT hZ (ow hw 51 rfl))) (mvT hZ (ow hw 51 rfl)) (mvT hZ (ow hw 50 rfl)) (by decide) (StrChars.Road.chN (W := 0) hZ (own_wC hw) (ow hw 6 rfl) (((Ex.ext E149).keep K150).keep K155) (((Vx.ext E149).keep K150 (ninS ne149_x nin0)).keep K155 (ninS ne149_x (ninS ne150_x nin0))) (((Cx.ext E149).keep K150 (ninS ne149_x nin0)).keep K155 (ninS ne149_x (ninS ne150_x nin0))) (((Kx.ext E149).keep K150 (ninS ne149_tx nin0)).keep K155 (ninS ne149_tx (ninS ne150_tx nin0))) cod r16 (SC.ext (((O.ext E149).keep K150 (allS gn149 all0)).keep K155 (allS gn149 (allS gt150 all0))).2) hz (SF.ext (((O.ext E149).keep K150 (allS gn149 all0)).keep K155 (allS gn149 (allS gt150 all0))).2) hfm (i := ld + 1 + 1) (by rw [own_lenC]; omega) (by rw [own_lenC]; simp only [own_enc, List.length_cons, List.length_nil]; omega) rfl (by decide) (by decide)) q188a q188c (g := (mkF m 103 #[.val (.ref x), .val (.int (Int32.ofNat (Q + 1))), .val (.int (Int32.ofNat (ld + 1 + 1))), .val (.ref b149), .val (.int c0)] [(.int (Int32.ofNat (ld + 1 + 1))), (.ref x)])) rfl hml.symm (Steps.refl _) (argsL := [(.int (Int32.ofNat (ld + 1 + 1)))]) (rest := []) (lenOf pd_11 rfl) rfl (o_mr rfl) (hb hby (od dB8 54 rfl)) (fun _ _ => ⟨rfl, e187, (by decide : 2 + 0 ≤ _), (by decide : 20 + 0 ≤ _)⟩)
              dsimp only [Pt.U, Pt.locs, Pt.cells, Pt.slots] at X188 l188 y188 z188 st188 hQ188
              replace l188 := l188.symm; replace y188 := y188.symm; replace z188 := z188.symm; subst l188 y188 z188
              obtain ⟨rfl, rfl, e188⟩ := hQ188
              have N188 := Fr.app N187 (Fr.nil n0)
              rw [vc188] at st188
              refine own_via st188 ?_
              show own_Fin p e below _ (T188.setTop (mkF m 106 #[.val (.ref x), .val (.int (Int32.ofNat (Q + 1))), .val (.int (Int32.ofNat (ld + 1 + 1))), .val (.ref b149), .val (.int c0)] [(.int (92 : Int32))]))
              refine o_ist X188 H (od dB8 55 rfl) (L' := #[.val (.ref x), .val (.int (Int32.ofNat (Q + 1))), .val (.int (Int32.ofNat (ld + 1 + 1))), .val (.ref b149), .val (.int (92 : Int32))]) rfl ?_
              refine o_ild X188 H (od dB8 56 rfl) rfl ?_
              refine o_bi X188 H (od dB8 57 rfl) (v := 92) rfl ?_
              refine o_icN X188 H (od dB8 58 rfl) (teq (by decide : (92 : Int32) = (92 : Int32))).2 ?_
              refine own_on (fun tq => XS.iinc X188.here hx rfl (hb hby (od dB8 59 rfl)) rfl (l' := #[.val (.ref x), .val (.int (Int32.ofNat (Q + 1))), .val (.int ((Int32.ofNat (ld + 1 + 1)) + (1 : Int32))), .val (.ref b149), .val (.int (92 : Int32))]) rfl) ?_
              show own_Fin p e below _ (T188.setTop (mkF m 118 #[.val (.ref x), .val (.int (Int32.ofNat (Q + 1))), .val (.int ((Int32.ofNat (ld + 1 + 1)) + (1 : Int32))), .val (.ref b149), .val (.int (92 : Int32))] []))
              rw [own_inc]
              show own_Fin p e below _ (T188.setTop (mkF m 118 #[.val (.ref x), .val (.int (Int32.ofNat (Q + 1))), .val (.int (Int32.ofNat (ld + 1 + 2))), .val (.ref b149), .val (.int (92 : Int32))] []))
              refine o_ildN X188 H (od dB8 60 rfl) rfl ?_
              refine o_ildN X188 H (od dB8 61 rfl) rfl ?_
              refine o_icN X188 H (od dB8 62 rfl) (tlt (own_olt (by omega) (by omega))).2.1 ?_
              refine o_aldN X188 H (od dB8 63 rfl) rfl rfl ?_
              refine o_ildN X188 H (od dB8 64 rfl) rfl ?_
              have vc189 : (own_cs ld ((false, c0) :: (true, c1) :: es1) tl).getD (ld + 1 + 2) 0 = c1 := (own_mid _ _ _ _).trans rfl
              obtain ⟨cq189, kq189, q189a, q189b, q189c⟩ := isOf hZ e188 (((Ex.ext E149).keep K150).keep K155)
              obtain ⟨_, _, ⟨T189, L189, k189, n189⟩, -, X189, ⟨Lc189, hQ189, l189, y189, z189⟩, st189⟩ := X188.virtualBack hx (y := (⟨"java/lang/String", "charAt", "(I)C"⟩ : MethodName)) (z := (⟨"java/lang/String", "charAt", "(I)C"⟩ : MethodName)) hown (mvT hZ (ow hw 48 rfl)) (mvT hZ (ow hw 49 rfl)) (notFace_of_selects (args := #[]) (mvT hZ (ow hw 51 rfl))) (mvT hZ (ow hw 51 rfl)) (mvT hZ (ow hw 50 rfl)) (by decide) (StrChars.Road.chN (W := 0) hZ (own_wC hw) (ow hw 6 rfl) (((Ex.ext E149).keep K150).keep K155) (((Vx.ext E149).keep K150 (ninS ne149_x nin0)).keep K155 (ninS ne149_x (ninS ne150_x nin0))) (((Cx.ext E149).keep K150 (ninS ne149_x nin0)).keep K155 (ninS ne149_x (ninS ne150_x nin0))) (((Kx.ext E149).keep K150 (ninS ne149_tx nin0)).keep K155 (ninS ne149_tx (ninS ne150_tx nin0))) cod r16 (SC.ext (((O.ext E149).keep K150 (allS gn149 all0)).keep K155 (allS gn149 (allS gt150 all0))).2) hz (SF.ext (((O.ext E149).keep K150 (allS gn149 all0)).keep K155 (allS gn149 (allS gt150 all0))).2) hfm (i := ld + 1 + 2) (by rw [own_lenC]; omega) (by rw [own_lenC]; simp only [own_enc, List.length_cons, List.length_nil]; omega) rfl (by decide) (by decide)) q189a q189c (g := (mkF m 125 #[.val (.ref x), .val (.int (Int32.ofNat (Q + 1))), .val (.int (Int32.ofNat (ld + 1 + 2))), .val (.ref b149), .val (.int (92 : Int32))] [(.int (Int32.ofNat (ld + 1 + 2))), (.ref x)])) rfl hml.symm (Steps.refl _) (argsL := [(.int (Int32.ofNat (ld + 1 + 2)))]) (rest := []) (lenOf pd_11 rfl) rfl (o_mr rfl) (hb hby (od dB8 65 rfl)) (fun _ _ => ⟨rfl, e188, (by decide : 2 + 0 ≤ _), (by decide : 20 + 0 ≤ _)⟩)
              dsimp only [Pt.U, Pt.locs, Pt.cells, Pt.slots] at X189 l189 y189 z189 st189 hQ189
              replace l189 := l189.symm; replace y189 := y189.symm; replace z189 := z189.symm; subst l189 y189 z189
              obtain ⟨rfl, rfl, e189⟩ := hQ189
              have N189 := Fr.app N188 (Fr.nil n0)
              rw [vc189] at st189
              refine own_via st189 ?_
              show own_Fin p e below _ (T189.setTop (mkF m 128 #[.val (.ref x), .val (.int (Int32.ofNat (Q + 1))), .val (.int (Int32.ofNat (ld + 1 + 2))), .val (.ref b149), .val (.int (92 : Int32))] [(.int c1)]))
              refine o_go X189 H (od dB8 66 rfl) (pc' := 132) (by decide) (by decide) ?_
              refine o_ist X189 H (od dB8 68 rfl) (L' := #[.val (.ref x), .val (.int (Int32.ofNat (Q + 1))), .val (.int (Int32.ofNat (ld + 1 + 2))), .val (.ref b149), .val (.int c1)]) rfl ?_
              refine own_merge (B := (T189.setTop (mkF m 188 #[.val (.ref x), .val (.int (Int32.ofNat (Q + 1))), .val (.int (Int32.ofNat (ld + 1 + 2))), .val (.ref b149), .val (.int c1)] []))) ?_ (fun HM => ?_)
              · show own_Fin p e below _ (T189.setTop (mkF m 188 #[.val (.ref x), .val (.int (Int32.ofNat (Q + 1))), .val (.int (Int32.ofNat (ld + 1 + 2))), .val (.ref b149), .val (.int c1)] []))
                refine o_aldN X189 H (od dB8 93 rfl) rfl rfl ?_
                refine o_ild X189 H (od dB8 94 rfl) rfl ?_
                refine o_vs (argsL := [(.int c1)]) (rest := []) X189 H hml hZ hown (ow hw 143 rfl) (ow hw 144 rfl) (ow hw 146 rfl) (ow hw 145 rfl) (backOf (W := 0) (rmPb1 l Z a0 hw [] b149 c1 z tb150 kt150 c0 T155.heap n0 (by exact (Nat.le_trans (Nat.le_trans (Nat.le_trans Z0 E149.1) K150.1) K155.1)) hz (((O.ext E149).keep K150 (allS gn149 all0)).keep K155 (allS gn149 (allS gt150 all0))) SC Eq155 Vq155 Cq155 Dq155 Aq155 gn149 gt150 ne150_b149 (own_u255 u1)) hZ (ow hw 147 rfl) (ow hw 72 rfl) (by decide) (by decide)) (by decide) Eq155 e189 pd_14 (od dB8 95 rfl) rfl rfl rfl rfl rfl (by decide) (by decide) fun _ T190 Lc190 X190 hQ190 => ?_
                obtain ⟨rfl, N190q, K190, Eq190, Vq190, Cq190, Dq190, Aq190⟩ := hQ190
                have N190 := Fr.app N189 N190q
                have y191 := (y156.trans K190 (allS (Or.inr gk149) (allS (Or.inr (Nat.le_trans ((Keep.refl h0 []).ext E149).1 gk150)) all0)))
                have y192 := ((((O.ext E149).keep K150 (allS gn149 all0)).keep K155 (allS gn149 (allS gt150 all0))).keep K190 (allS gn149 (allS gt150 all0)))
                have y193 := ((((Vx.ext E149).keep K150 (ninS ne149_x nin0)).keep K155 (ninS ne149_x (ninS ne150_x nin0))).keep K190 (ninS ne149_x (ninS ne150_x nin0)))
                have y194 := ((((Cx.ext E149).keep K150 (ninS ne149_x nin0)).keep K155 (ninS ne149_x (ninS ne150_x nin0))).keep K190 (ninS ne149_x (ninS ne150_x nin0)))
                have y195 := ((((Kx.ext E149).keep K150 (ninS ne149_tx nin0)).keep K155 (ninS ne149_tx (ninS ne150_tx nin0))).keep K190 (ninS ne149_tx (ninS ne150_tx nin0)))
                show own_Fin p e below _ (T190.setTop (mkF m 194 #[.val (.ref x), .val (.int (Int32.ofNat (Q + 1))), .val (.int (Int32.ofNat (ld + 1 + 2))), .val (.ref b149), .val (.int c1)] [(.ref b149)]))
                refine o_pop X190 H (od dB8 96 rfl) rfl ?_
                refine own_on (fun tq => XS.iinc X190.here hx rfl (hb hby (od dB8 97 rfl)) rfl (l' := #[.val (.ref x), .val (.int (Int32.ofNat (Q + 1))), .val (.int ((Int32.ofNat (ld + 1 + 2)) + (1 : Int32))), .val (.ref b149), .val (.int c1)]) rfl) ?_
                show own_Fin p e below _ (T190.setTop (mkF m 198 #[.val (.ref x), .val (.int (Int32.ofNat (Q + 1))), .val (.int ((Int32.ofNat (ld + 1 + 2)) + (1 : Int32))), .val (.ref b149), .val (.int c1)] []))
                refine o_go X190 H (od dB8 98 rfl) (pc' := 86) (by decide) (by decide) ?_
                rw [own_inc]
                show own_Fin p e below _ (T190.setTop (mkF m 86 #[.val (.ref x), .val (.int (Int32.ofNat (Q + 1))), .val (.int (Int32.ofNat (ld + 1 + 3))), .val (.ref b149), .val (.int c1)] []))
                rcases es1 with _ | ⟨⟨b2, c2⟩, es2⟩
                · have hP : Q = ld + 1 + 3 := by rw [hQ]; simp only [own_enc, List.length_cons, List.length_nil]
                  show own_Fin p e below _ (T190.setTop (mkF m 86 #[.val (.ref x), .val (.int (Int32.ofNat (Q + 1))), .val (.int (Int32.ofNat (ld + 1 + 3))), .val (.ref b149), .val (.int c1)] []))
                  refine o_ildN X190 H (od dB8 44 rfl) rfl ?_
                  refine o_ildN X190 H (od dB8 45 rfl) rfl ?_
                  refine o_icN X190 H (od dB8 46 rfl) (tlt (own_olt (by omega) (by omega))).2.1 ?_
                  refine o_aldN X190 H (od dB8 47 rfl) rfl rfl ?_
                  refine o_ildN X190 H (od dB8 48 rfl) rfl ?_
                  have vc196 : (own_cs ld ((false, c0) :: (true, c1) :: []) tl).getD (ld + 1 + 3) 0 = (34 : Int32) := (own_mid _ _ _ _).trans rfl
                  obtain ⟨cq196, kq196, q196a, q196b, q196c⟩ := isOf hZ rfl ((((Ex.ext E149).keep K150).keep K155).keep K190)
                  obtain ⟨_, _, ⟨T196, L196, k196, n196⟩, -, X196, ⟨Lc196, hQ196, l196, y196, z196⟩, st196⟩ := X190.virtualBack hx (y := (⟨"java/lang/String", "charAt", "(I)C"⟩ : MethodName)) (z := (⟨"java/lang/String", "charAt", "(I)C"⟩ : MethodName)) hown (mvT hZ (ow hw 48 rfl)) (mvT hZ (ow hw 49 rfl)) (notFace_of_selects (args := #[]) (mvT hZ (ow hw 51 rfl))) (mvT hZ (ow hw 51 rfl)) (mvT hZ (ow hw 50 rfl)) (by decide) (StrChars.Road.chN (W := 0) hZ (own_wC hw) (ow hw 6 rfl) ((((Ex.ext E149).keep K150).keep K155).keep K190) y193 y194 y195 cod r16 (SC.ext y192.2) hz (SF.ext y192.2) hfm (i := ld + 1 + 3) (by rw [own_lenC]; omega) (by rw [own_lenC]; simp only [own_enc, List.length_cons, List.length_nil]; omega) rfl (by decide) (by decide)) q196a q196c (g := (mkF m 93 #[.val (.ref x), .val (.int (Int32.ofNat (Q + 1))), .val (.int (Int32.ofNat (ld + 1 + 3))), .val (.ref b149), .val (.int c1)] [(.int (Int32.ofNat (ld + 1 + 3))), (.ref x)])) rfl hml.symm (Steps.refl _) (argsL := [(.int (Int32.ofNat (ld + 1 + 3)))]) (rest := []) (lenOf pd_11 rfl) rfl (o_mr rfl) (hb hby (od dB8 49 rfl)) (fun _ _ => ⟨rfl, rfl, (by decide : 2 + 0 ≤ _), (by decide : 20 + 0 ≤ _)⟩)
                  dsimp only [Pt.U, Pt.locs, Pt.cells, Pt.slots] at X196 l196 y196 z196 st196 hQ196
                  replace l196 := l196.symm; replace y196 := y196.symm; replace z196 := z196.symm; subst l196 y196 z196
                  obtain ⟨rfl, rfl, e196⟩ := hQ196
                  have N196 := Fr.app N190 (Fr.nil n0)
                  rw [vc196] at st196
                  refine own_via st196 ?_
                  show own_Fin p e below _ (T196.setTop (mkF m 96 #[.val (.ref x), .val (.int (Int32.ofNat (Q + 1))), .val (.int (Int32.ofNat (ld + 1 + 3))), .val (.ref b149), .val (.int c1)] [(.int (34 : Int32))]))
                  refine o_bi X196 H (od dB8 50 rfl) (v := 34) rfl ?_
                  refine o_icY X196 H (od dB8 51 rfl) (teq (by decide : (34 : Int32) = (34 : Int32))).1 (pc' := 201) (by decide) (by decide) ?_
                  refine o_ildN X196 H (od dB8 99 rfl) rfl ?_
                  refine o_ildN X196 H (od dB8 100 rfl) rfl ?_
                  refine o_ic X196 H (od dB8 101 rfl) (v := 1) rfl ?_
                  refine o_isub X196 H (od dB8 102 rfl) ?_
                  rw [own_sub1]
                  show own_Fin p e below _ (T196.setTop (mkF m 205 #[.val (.ref x), .val (.int (Int32.ofNat (Q + 1))), .val (.int (Int32.ofNat (ld + 1 + 3))), .val (.ref b149), .val (.int c1)] [(.int (Int32.ofNat Q)), (.int (Int32.ofNat (ld + 1 + 3)))]))
                  refine o_icY X196 H (od dB8 103 rfl) (teq (congrArg Int32.ofNat hP.symm)).1 (pc' := 218) (by decide) (by decide) ?_
                  refine o_aldN X196 H (od dB8 109 rfl) rfl rfl ?_
                  refine o_vs (argsL := []) (rest := []) X196 H hml hZ hown (ow hw 88 rfl) (ow hw 89 rfl) (ow hw 91 rfl) (ow hw 90 rfl) (backOf (W := 0) (rmTs2 l Z a0 hw [] b149 z tb150 kt150 c0 c1 T190.heap n0 (by exact (Nat.le_trans (Nat.le_trans (Nat.le_trans (Nat.le_trans Z0 E149.1) K150.1) K155.1) K190.1)) hz y192 SC Eq190 Vq190 Cq190 Dq190 Aq190 gn149 gt150 ne150_b149) hZ (ow hw 92 rfl) (ow hw 72 rfl) (by decide) (by decide)) (by decide) Eq190 e196 pd_13 (od dB8 110 rfl) rfl rfl rfl rfl rfl (by decide) (by decide) fun _ T197 Lc197 X197 hQ197 => ?_
                  obtain ⟨y197s, x197, kx197, rfl, N197q, K197, gk197, Eq197, Cq197, Vq197, Aq197⟩ := hQ197
                  have N197 := Fr.app N196 N197q
                  have y198 := (Nat.le_trans (Nat.le_trans (Nat.le_trans (Nat.le_trans (Nat.le_trans Z0 E149.1) K150.1) K155.1) K190.1) K197.1)
                  show own_Fin p e below _ (T197.setTop (mkF m 222 #[.val (.ref x), .val (.int (Int32.ofNat (Q + 1))), .val (.int (Int32.ofNat (ld + 1 + 3))), .val (.ref b149), .val (.int c1)] [(.ref y197s)]))
                  exact own_ret (t := (.object "java/lang/String")) X197 hx hlk hret rfl (Or.inr (Or.inr (Or.inr (Or.inr ⟨rfl, rfl, rfl⟩)))) (hb hby (od dB8 111 rfl)) (by show Q8 Z x z fm tx kx ld tl ((false, c0) :: (true, c1) :: []) N2 vs h0 n0 _ T197.heap _; exact ⟨y197s, x197, kx197, rfl, N197, (y191.trans K197 all0), Eq197, Cq197, Vq197, Aq197⟩) (by decide) (by decide)
                · cases b2
                  · have u2 : own_unit (false, c2) := hu _ (List.mem_of_getElem? (i := 2) rfl)
                    have hP2 : Q = ld + 1 + 4 + (own_enc es2).length := by rw [hQ]; simp only [own_enc, List.length_cons]; omega
                    show own_Fin p e below _ (T190.setTop (mkF m 86 #[.val (.ref x), .val (.int (Int32.ofNat (Q + 1))), .val (.int (Int32.ofNat (ld + 1 + 3))), .val (.ref b149), .val (.int c1)] []))
                    refine o_ildN X190 H (od dB8 44 rfl) rfl ?_
                    refine o_ildN X190 H (od dB8 45 rfl) rfl ?_
                    refine o_icN X190 H (od dB8 46 rfl) (tlt (own_olt (by omega) (by omega))).2.1 ?_
                    refine o_aldN X190 H (od dB8 47 rfl) rfl rfl ?_
                    refine o_ildN X190 H (od dB8 48 rfl) rfl ?_
                    have vc199 : (own_cs ld ((false, c0) :: (true, c1) :: (false, c2) :: es2) tl).getD (ld + 1 + 3) 0 = c2 := (own_mid _ _ _ _).trans rfl
                    obtain ⟨cq199, kq199, q199a, q199b, q199c⟩ := isOf hZ rfl ((((Ex.ext E149).keep K150).keep K155).keep K190)
                    obtain ⟨_, _, ⟨T199, L199, k199, n199⟩, -, X199, ⟨Lc199, hQ199, l199, y199, z199⟩, st199⟩ := X190.virtualBack hx (y := (⟨"java/lang/String", "charAt", "(I)C"⟩ : MethodName)) (z := (⟨"java/lang/String", "charAt", "(I)C"⟩ : MethodName)) hown (mvT hZ (ow hw 48 rfl)) (mvT hZ (ow hw 49 rfl)) (notFace_of_selects (args := #[]) (mvT hZ (ow hw 51 rfl))) (mvT hZ (ow hw 51 rfl)) (mvT hZ (ow hw 50 rfl)) (by decide) (StrChars.Road.chN (W := 0) hZ (own_wC hw) (ow hw 6 rfl) ((((Ex.ext E149).keep K150).keep K155).keep K190) y193 y194 y195 cod r16 (SC.ext y192.2) hz (SF.ext y192.2) hfm (i := ld + 1 + 3) (by rw [own_lenC]; omega) (by rw [own_lenC]; simp only [own_enc, List.length_cons, List.length_nil]; omega) rfl (by decide) (by decide)) q199a q199c (g := (mkF m 93 #[.val (.ref x), .val (.int (Int32.ofNat (Q + 1))), .val (.int (Int32.ofNat (ld + 1 + 3))), .val (.ref b149), .val (.int c1)] [(.int (Int32.ofNat (ld + 1 + 3))), (.ref x)])) rfl hml.symm (Steps.refl _) (argsL := [(.int (Int32.ofNat (ld + 1 + 3)))]) (rest := []) (lenOf pd_11 rfl) rfl (o_mr rfl) (hb hby (od dB8 49 rfl)) (fun _ _ => ⟨rfl, rfl, (by decide : 2 + 0 ≤ _), (by decide : 20 + 0 ≤ _)⟩)
                    dsimp only [Pt.U, Pt.locs, Pt.cells, Pt.slots] at X199 l199 y199 z199 st199 hQ199
                    replace l199 := l199.symm; replace y199 := y199.symm; replace z199 := z199.symm; subst l199 y199 z199
                    obtain ⟨rfl, rfl, e199⟩ := hQ199
                    have N199 := Fr.app N190 (Fr.nil n0)
                    rw [vc199] at st199
                    refine own_via st199 ?_
                    show own_Fin p e below _ (T199.setTop (mkF m 96 #[.val (.ref x), .val (.int (Int32.ofNat (Q + 1))), .val (.int (Int32.ofNat (ld + 1 + 3))), .val (.ref b149), .val (.int c1)] [(.int c2)]))
                    refine o_bi X199 H (od dB8 50 rfl) (v := 34) rfl ?_
                    refine o_icN X199 H (od dB8 51 rfl) (feq (own_uf u2).1).1 ?_
                    refine o_aldN X199 H (od dB8 52 rfl) rfl rfl ?_
                    refine o_ildN X199 H (od dB8 53 rfl) rfl ?_
                    have vc200 : (own_cs ld ((false, c0) :: (true, c1) :: (false, c2) :: es2) tl).getD (ld + 1 + 3) 0 = c2 := (own_mid _ _ _ _).trans rfl
                    obtain ⟨cq200, kq200, q200a, q200b, q200c⟩ := isOf hZ e199 ((((Ex.ext E149).keep K150).keep K155).keep K190)
                    obtain ⟨_, _, ⟨T200, L200, k200, n200⟩, -, X200, ⟨Lc200, hQ200, l200, y200, z200⟩, st200⟩ := X199.virtualBack hx (y := (⟨"java/lang/String", "charAt", "(I)C"⟩ : MethodName)) (z := (⟨"java/lang/String", "charAt", "(I)C"⟩ : MethodName)) hown (mvT hZ (ow hw 48 rfl)) (mvT hZ (ow hw 49 rfl)) (notFace_of_selects (args := #[]) (mvT hZ (ow hw 51 rfl))) (mvT hZ (ow hw 51 rfl)) (mvT hZ (ow hw 50 rfl)) (by decide) (StrChars.Road.chN (W := 0) hZ (own_wC hw) (ow hw 6 rfl) ((((Ex.ext E149).keep K150).keep K155).keep K190) y193 y194 y195 cod r16 (SC.ext y192.2) hz (SF.ext y192.2) hfm (i := ld + 1 + 3) (by rw [own_lenC]; omega) (by rw [own_lenC]; simp only [own_enc, List.length_cons, List.length_nil]; omega) rfl (by decide) (by decide)) q200a q200c (g := (mkF m 103 #[.val (.ref x), .val (.int (Int32.ofNat (Q + 1))), .val (.int (Int32.ofNat (ld + 1 + 3))), .val (.ref b149), .val (.int c1)] [(.int (Int32.ofNat (ld + 1 + 3))), (.ref x)])) rfl hml.symm (Steps.refl _) (argsL := [(.int (Int32.ofNat (ld + 1 + 3)))]) (rest := []) (lenOf pd_11 rfl) rfl (o_mr rfl) (hb hby (od dB8 54 rfl)) (fun _ _ => ⟨rfl, e199, (by decide : 2 + 0 ≤ _), (by decide : 20 + 0 ≤ _)⟩)
                    dsimp only [Pt.U, Pt.locs, Pt.cells, Pt.slots] at X200 l200 y200 z200 st200 hQ200
                    replace l200 := l200.symm; replace y200 := y200.symm; replace z200 := z200.symm; subst l200 y200 z200
                    obtain ⟨rfl, rfl, e200⟩ := hQ200
                    have N200 := Fr.app N199 (Fr.nil n0)
                    rw [vc200] at st200
                    refine own_via st200 ?_
                    show own_Fin p e below _ (T200.setTop (mkF m 106 #[.val (.ref x), .val (.int (Int32.ofNat (Q + 1))), .val (.int (Int32.ofNat (ld + 1 + 3))), .val (.ref b149), .val (.int c1)] [(.int c2)]))
                    refine o_ist X200 H (od dB8 55 rfl) (L' := #[.val (.ref x), .val (.int (Int32.ofNat (Q + 1))), .val (.int (Int32.ofNat (ld + 1 + 3))), .val (.ref b149), .val (.int c2)]) rfl ?_
                    refine o_ild X200 H (od dB8 56 rfl) rfl ?_
                    refine o_bi X200 H (od dB8 57 rfl) (v := 92) rfl ?_
                    refine o_icY X200 H (od dB8 58 rfl) (feq (own_uf u2).2.1).2 (pc' := 158) (by decide) (by decide) ?_
                    refine o_ild X200 H (od dB8 80 rfl) rfl ?_
                    refine o_bi X200 H (od dB8 81 rfl) (v := 32) rfl ?_
                    refine o_icN X200 H (od dB8 82 rfl) (flt (own_uf u2).2.2.1).1 ?_
                    refine o_ild X200 H (od dB8 83 rfl) rfl ?_
                    refine o_bi X200 H (od dB8 84 rfl) (v := 126) rfl ?_
                    refine o_icY X200 H (od dB8 85 rfl) (flt (own_uf u2).2.2.2).2.2.2 (pc' := 188) (by decide) (by decide) ?_
                    refine o_aldN X200 H (od dB8 93 rfl) rfl rfl ?_
                    refine o_ild X200 H (od dB8 94 rfl) rfl ?_
                    refine o_vs (argsL := [(.int c2)]) (rest := []) X200 H hml hZ hown (ow hw 143 rfl) (ow hw 144 rfl) (ow hw 146 rfl) (ow hw 145 rfl) (backOf (W := 0) (rmPb2 l Z a0 hw [] b149 c2 z tb150 kt150 c0 c1 T190.heap n0 (by exact (Nat.le_trans (Nat.le_trans (Nat.le_trans (Nat.le_trans Z0 E149.1) K150.1) K155.1) K190.1)) hz y192 SC Eq190 Vq190 Cq190 Dq190 Aq190 gn149 gt150 ne150_b149 (own_u255 u2)) hZ (ow hw 147 rfl) (ow hw 72 rfl) (by decide) (by decide)) (by decide) Eq190 e200 pd_14 (od dB8 95 rfl) rfl rfl rfl rfl rfl (by decide) (by decide) fun _ T201 Lc201 X201 hQ201 => ?_
                    obtain ⟨rfl, N201q, K201, Eq201, Vq201, Cq201, Dq201, Aq201⟩ := hQ201
                    have N201 := Fr.app N200 N201q
                    have y202 := (y191.trans K201 (allS (Or.inr gk149) (allS (Or.inr (Nat.le_trans ((Keep.refl h0 []).ext E149).1 gk150)) all0)))
                    have y203 := (Nat.le_trans (Nat.le_trans (Nat.le_trans (Nat.le_trans (Nat.le_trans Z0 E149.1) K150.1) K155.1) K190.1) K201.1)
                    show own_Fin p e below _ (T201.setTop (mkF m 194 #[.val (.ref x), .val (.int (Int32.ofNat (Q + 1))), .val (.int (Int32.ofNat (ld + 1 + 3))), .val (.ref b149), .val (.int c2)] [(.ref b149)]))
                    refine o_pop X201 H (od dB8 96 rfl) rfl ?_
                    refine own_on (fun tq => XS.iinc X201.here hx rfl (hb hby (od dB8 97 rfl)) rfl (l' := #[.val (.ref x), .val (.int (Int32.ofNat (Q + 1))), .val (.int ((Int32.ofNat (ld + 1 + 3)) + (1 : Int32))), .val (.ref b149), .val (.int c2)]) rfl) ?_
                    show own_Fin p e below _ (T201.setTop (mkF m 198 #[.val (.ref x), .val (.int (Int32.ofNat (Q + 1))), .val (.int ((Int32.ofNat (ld + 1 + 3)) + (1 : Int32))), .val (.ref b149), .val (.int c2)] []))
                    refine o_go X201 H (od dB8 98 rfl) (pc' := 86) (by decide) (by decide) ?_
                    rw [own_inc]
                    show own_Fin p e below _ (T201.setTop (mkF m 86 #[.val (.ref x), .val (.int (Int32.ofNat (Q + 1))), .val (.int (Int32.ofNat (ld + 1 + 4))), .val (.ref b149), .val (.int c2)] []))
                    rcases es2 with _ | ⟨⟨b3, c3⟩, es3⟩
                    · have hP : Q = ld + 1 + 4 := by rw [hQ]; simp only [own_enc, List.length_cons, List.length_nil]
                      show own_Fin p e below _ (T201.setTop (mkF m 86 #[.val (.ref x), .val (.int (Int32.ofNat (Q + 1))), .val (.int (Int32.ofNat (ld + 1 + 4))), .val (.ref b149), .val (.int c2)] []))
                      refine o_ildN X201 H (od dB8 44 rfl) rfl ?_
                      refine o_ildN X201 H (od dB8 45 rfl) rfl ?_
                      refine o_icN X201 H (od dB8 46 rfl) (tlt (own_olt (by omega) (by omega))).2.1 ?_
                      refine o_aldN X201 H (od dB8 47 rfl) rfl rfl ?_
                      refine o_ildN X201 H (od dB8 48 rfl) rfl ?_
                      have vc204 : (own_cs ld ((false, c0) :: (true, c1) :: (false, c2) :: []) tl).getD (ld + 1 + 4) 0 = (34 : Int32) := (own_mid _ _ _ _).trans rfl
                      obtain ⟨cq204, kq204, q204a, q204b, q204c⟩ := isOf hZ rfl (((((Ex.ext E149).keep K150).keep K155).keep K190).keep K201)
                      obtain ⟨_, _, ⟨T204, L204, k204, n204⟩, -, X204, ⟨Lc204, hQ204, l204, y204, z204⟩, st204⟩ := X201.virtualBack hx (y := (⟨"java/lang/String", "charAt", "(I)C"⟩ : MethodName)) (z := (⟨"java/lang/String", "charAt", "(I)C"⟩ : MethodName)) hown (mvT hZ (ow hw 48 rfl)) (mvT hZ (ow hw 49 rfl)) (notFace_of_selects (args := #[]) (mvT hZ (ow hw 51 rfl))) (mvT hZ (ow hw 51 rfl)) (mvT hZ (ow hw 50 rfl)) (by decide) (StrChars.Road.chN (W := 0) hZ (own_wC hw) (ow hw 6 rfl) (((((Ex.ext E149).keep K150).keep K155).keep K190).keep K201) (y193.keep K201 (ninS ne149_x (ninS ne150_x nin0))) (y194.keep K201 (ninS ne149_x (ninS ne150_x nin0))) (y195.keep K201 (ninS ne149_tx (ninS ne150_tx nin0))) cod r16 (SC.ext (y192.keep K201 (allS gn149 (allS gt150 all0))).2) hz (SF.ext (y192.keep K201 (allS gn149 (allS gt150 all0))).2) hfm (i := ld + 1 + 4) (by rw [own_lenC]; omega) (by rw [own_lenC]; simp only [own_enc, List.length_cons, List.length_nil]; omega) rfl (by decide) (by decide)) q204a q204c (g := (mkF m 93 #[.val (.ref x), .val (.int (Int32.ofNat (Q + 1))), .val (.int (Int32.ofNat (ld + 1 + 4))), .val (.ref b149), .val (.int c2)] [(.int (Int32.ofNat (ld + 1 + 4))), (.ref x)])) rfl hml.symm (Steps.refl _) (argsL := [(.int (Int32.ofNat (ld + 1 + 4)))]) (rest := []) (lenOf pd_11 rfl) rfl (o_mr rfl) (hb hby (od dB8 49 rfl)) (fun _ _ => ⟨rfl, rfl, (by decide : 2 + 0 ≤ _), (by decide : 20 + 0 ≤ _)⟩)
                      dsimp only [Pt.U, Pt.locs, Pt.cells, Pt.slots] at X204 l204 y204 z204 st204 hQ204
                      replace l204 := l204.symm; replace y204 := y204.symm; replace z204 := z204.symm; subst l204 y204 z204
                      obtain ⟨rfl, rfl, e204⟩ := hQ204
                      have N204 := Fr.app N201 (Fr.nil n0)
                      rw [vc204] at st204
                      refine own_via st204 ?_
                      show own_Fin p e below _ (T204.setTop (mkF m 96 #[.val (.ref x), .val (.int (Int32.ofNat (Q + 1))), .val (.int (Int32.ofNat (ld + 1 + 4))), .val (.ref b149), .val (.int c2)] [(.int (34 : Int32))]))
                      refine o_bi X204 H (od dB8 50 rfl) (v := 34) rfl ?_
                      refine o_icY X204 H (od dB8 51 rfl) (teq (by decide : (34 : Int32) = (34 : Int32))).1 (pc' := 201) (by decide) (by decide) ?_
                      refine o_ildN X204 H (od dB8 99 rfl) rfl ?_
                      refine o_ildN X204 H (od dB8 100 rfl) rfl ?_
                      refine o_ic X204 H (od dB8 101 rfl) (v := 1) rfl ?_
                      refine o_isub X204 H (od dB8 102 rfl) ?_
                      rw [own_sub1]
                      show own_Fin p e below _ (T204.setTop (mkF m 205 #[.val (.ref x), .val (.int (Int32.ofNat (Q + 1))), .val (.int (Int32.ofNat (ld + 1 + 4))), .val (.ref b149), .val (.int c2)] [(.int (Int32.ofNat Q)), (.int (Int32.ofNat (ld + 1 + 4)))]))
                      refine o_icY X204 H (od dB8 103 rfl) (teq (congrArg Int32.ofNat hP.symm)).1 (pc' := 218) (by decide) (by decide) ?_
                      refine o_aldN X204 H (od dB8 109 rfl) rfl rfl ?_
                      refine o_vs (argsL := []) (rest := []) X204 H hml hZ hown (ow hw 88 rfl) (ow hw 89 rfl) (ow hw 91 rfl) (ow hw 90 rfl) (backOf (W := 0) (rmTs3 l Z a0 hw [] b149 z tb150 kt150 c0 c1 c2 T201.heap n0 (by exact y203) hz (y192.keep K201 (allS gn149 (allS gt150 all0))) SC Eq201 Vq201 Cq201 Dq201 Aq201 gn149 gt150 ne150_b149) hZ (ow hw 92 rfl) (ow hw 72 rfl) (by decide) (by decide)) (by decide) Eq201 e204 pd_13 (od dB8 110 rfl) rfl rfl rfl rfl rfl (by decide) (by decide) fun _ T205 Lc205 X205 hQ205 => ?_
                      obtain ⟨y205s, x205, kx205, rfl, N205q, K205, gk205, Eq205, Cq205, Vq205, Aq205⟩ := hQ205
                      have N205 := Fr.app N204 N205q
                      show own_Fin p e below _ (T205.setTop (mkF m 222 #[.val (.ref x), .val (.int (Int32.ofNat (Q + 1))), .val (.int (Int32.ofNat (ld + 1 + 4))), .val (.ref b149), .val (.int c2)] [(.ref y205s)]))
                      exact own_ret (t := (.object "java/lang/String")) X205 hx hlk hret rfl (Or.inr (Or.inr (Or.inr (Or.inr ⟨rfl, rfl, rfl⟩)))) (hb hby (od dB8 111 rfl)) (by show Q8 Z x z fm tx kx ld tl ((false, c0) :: (true, c1) :: (false, c2) :: []) N2 vs h0 n0 _ T205.heap _; exact ⟨y205s, x205, kx205, rfl, N205, (y202.trans K205 all0), Eq205, Cq205, Vq205, Aq205⟩) (by decide) (by decide)
                    · exact absurd hes (by simp)
                  · have u2 : own_unit (true, c2) := hu _ (List.mem_of_getElem? (i := 2) rfl)
                    have hP2 : Q = ld + 1 + 5 + (own_enc es2).length := by rw [hQ]; simp only [own_enc, List.length_cons]; omega
                    show own_Fin p e below _ (T190.setTop (mkF m 86 #[.val (.ref x), .val (.int (Int32.ofNat (Q + 1))), .val (.int (Int32.ofNat (ld + 1 + 3))), .val (.ref b149), .val (.int c1)] []))
                    refine o_ildN X190 H (od dB8 44 rfl) rfl ?_
                    refine o_ildN X190 H (od dB8 45 rfl) rfl ?_
                    refine o_icN X190 H (od dB8 46 rfl) (tlt (own_olt (by omega) (by omega))).2.1 ?_
                    refine o_aldN X190 H (od dB8 47 rfl) rfl rfl ?_
                    refine o_ildN X190 H (od dB8 48 rfl) rfl ?_
                    have vc206 : (own_cs ld ((false, c0) :: (true, c1) :: (true, c2) :: es2) tl).getD (ld + 1 + 3) 0 = (92 : Int32) := (own_mid _ _ _ _).trans rfl
                    obtain ⟨cq206, kq206, q206a, q206b, q206c⟩ := isOf hZ rfl ((((Ex.ext E149).keep K150).keep K155).keep K190)
                    obtain ⟨_, _, ⟨T206, L206, k206, n206⟩, -, X206, ⟨Lc206, hQ206, l206, y206, z206⟩, st206⟩ := X190.virtualBack hx (y := (⟨"java/lang/String", "charAt", "(I)C"⟩ : MethodName)) (z := (⟨"java/lang/String", "charAt", "(I)C"⟩ : MethodName)) hown (mvT hZ (ow hw 48 rfl)) (mvT hZ (ow hw 49 rfl)) (notFace_of_selects (args := #[]) (mvT hZ (ow hw 51 rfl))) (mvT hZ (ow hw 51 rfl)) (mvT hZ (ow hw 50 rfl)) (by decide) (StrChars.Road.chN (W := 0) hZ (own_wC hw) (ow hw 6 rfl) ((((Ex.ext E149).keep K150).keep K155).keep K190) y193 y194 y195 cod r16 (SC.ext y192.2) hz (SF.ext y192.2) hfm (i := ld + 1 + 3) (by rw [own_lenC]; omega) (by rw [own_lenC]; simp only [own_enc, List.length_cons, List.length_nil]; omega) rfl (by decide) (by decide)) q206a q206c (g := (mkF m 93 #[.val (.ref x), .val (.int (Int32.ofNat (Q + 1))), .val (.int (Int32.ofNat (ld + 1 + 3))), .val (.ref b149), .val (.int c1)] [(.int (Int32.ofNat (ld + 1 + 3))), (.ref x)])) rfl hml.symm (Steps.refl _) (argsL := [(.int (Int32.ofNat (ld + 1 + 3)))]) (rest := []) (lenOf pd_11 rfl) rfl (o_mr rfl) (hb hby (od dB8 49 rfl)) (fun _ _ => ⟨rfl, rfl, (by decide : 2 + 0 ≤ _), (by decide : 20 + 0 ≤ _)⟩)
                    dsimp only [Pt.U, Pt.locs, Pt.cells, Pt.slots] at X206 l206 y206 z206 st206 hQ206
                    replace l206 := l206.symm; replace y206 := y206.symm; replace z206 := z206.symm; subst l206 y206 z206
                    obtain ⟨rfl, rfl, e206⟩ := hQ206
                    have N206 := Fr.app N190 (Fr.nil n0)
                    rw [vc206] at st206
                    refine own_via st206 ?_
                    show own_Fin p e below _ (T206.setTop (mkF m 96 #[.val (.ref x), .val (.int (Int32.ofNat (Q + 1))), .val (.int (Int32.ofNat (ld + 1 + 3))), .val (.ref b149), .val (.int c1)] [(.int (92 : Int32))]))
                    refine o_bi X206 H (od dB8 50 rfl) (v := 34) rfl ?_
                    refine o_icN X206 H (od dB8 51 rfl) (feq (by decide : ¬ ((92 : Int32) = (34 : Int32)))).1 ?_
                    refine o_aldN X206 H (od dB8 52 rfl) rfl rfl ?_
                    refine o_ildN X206 H (od dB8 53 rfl) rfl ?_
                    have vc207 : (own_cs ld ((false, c0) :: (true, c1) :: (true, c2) :: es2) tl).getD (ld + 1 + 3) 0 = (92 : Int32) := (own_mid _ _ _ _).trans rfl
                    obtain ⟨cq207, kq207, q207a, q207b, q207c⟩ := isOf hZ e206 ((((Ex.ext E149).keep K150).keep K155).keep K190)
                    obtain ⟨_, _, ⟨T207, L207, k207, n207⟩, -, X207, ⟨Lc207, hQ207, l207, y207, z207⟩, st207⟩ := X206.virtualBack hx (y := (⟨"java/lang/String", "charAt", "(I)C"⟩ : MethodName)) (z := (⟨"java/lang/String", "charAt", "(I)C"⟩ : MethodName)) hown (mvT hZ (ow hw 48 rfl)) (mvT hZ (ow hw 49 rfl)) (notFace_of_selects (args := #[]) (mvT hZ (ow hw 51 rfl))) (mvT hZ (ow hw 51 rfl)) (mvT hZ (ow hw 50 rfl)) (by decide) (StrChars.Road.chN (W := 0) hZ (own_wC hw) (ow hw 6 rfl) ((((Ex.ext E149).keep K150).keep K155).keep K190) y193 y194 y195 cod r16 (SC.ext y192.2) hz (SF.ext y192.2) hfm (i := ld + 1 + 3) (by rw [own_lenC]; omega) (by rw [own_lenC]; simp only [own_enc, List.length_cons, List.length_nil]; omega) rfl (by decide) (by decide)) q207a q207c (g := (mkF m 103 #[.val (.ref x), .val (.int (Int32.ofNat (Q + 1))), .val (.int (Int32.ofNat (ld + 1 + 3))), .val (.ref b149), .val (.int c1)] [(.int (Int32.ofNat (ld + 1 + 3))), (.ref x)])) rfl hml.symm (Steps.refl _) (argsL := [(.int (Int32.ofNat (ld + 1 + 3)))]) (rest := []) (lenOf pd_11 rfl) rfl (o_mr rfl) (hb hby (od dB8 54 rfl)) (fun _ _ => ⟨rfl, e206, (by decide : 2 + 0 ≤ _), (by decide : 20 + 0 ≤ _)⟩)
                    dsimp only [Pt.U, Pt.locs, Pt.cells, Pt.slots] at X207 l207 y207 z207 st207 hQ207
                    replace l207 := l207.symm; replace y207 := y207.symm; replace z207 := z207.symm; subst l207 y207 z207
                    obtain ⟨rfl, rfl, e207⟩ := hQ207
                    have N207 := Fr.app N206 (Fr.nil n0)
                    rw [vc207] at st207
                    refine own_via st207 ?_
                    show own_Fin p e below _ (T207.setTop (mkF m 106 #[.val (.ref x), .val (.int (Int32.ofNat (Q + 1))), .val (.int (Int32.ofNat (ld + 1 + 3))), .val (.ref b149), .val (.int c1)] [(.int (92 : Int32))]))
                    refine o_ist X207 H (od dB8 55 rfl) (L' := #[.val (.ref x), .val (.int (Int32.ofNat (Q + 1))), .val (.int (Int32.ofNat (ld + 1 + 3))), .val (.ref b149), .val (.int (92 : Int32))]) rfl ?_
                    refine o_ild X207 H (od dB8 56 rfl) rfl ?_
                    refine o_bi X207 H (od dB8 57 rfl) (v := 92) rfl ?_
                    refine o_icN X207 H (od dB8 58 rfl) (teq (by decide : (92 : Int32) = (92 : Int32))).2 ?_
                    refine own_on (fun tq => XS.iinc X207.here hx rfl (hb hby (od dB8 59 rfl)) rfl (l' := #[.val (.ref x), .val (.int (Int32.ofNat (Q + 1))), .val (.int ((Int32.ofNat (ld + 1 + 3)) + (1 : Int32))), .val (.ref b149), .val (.int (92 : Int32))]) rfl) ?_
                    show own_Fin p e below _ (T207.setTop (mkF m 118 #[.val (.ref x), .val (.int (Int32.ofNat (Q + 1))), .val (.int ((Int32.ofNat (ld + 1 + 3)) + (1 : Int32))), .val (.ref b149), .val (.int (92 : Int32))] []))
                    rw [own_inc]
                    show own_Fin p e below _ (T207.setTop (mkF m 118 #[.val (.ref x), .val (.int (Int32.ofNat (Q + 1))), .val (.int (Int32.ofNat (ld + 1 + 4))), .val (.ref b149), .val (.int (92 : Int32))] []))
                    refine o_ildN X207 H (od dB8 60 rfl) rfl ?_
                    refine o_ildN X207 H (od dB8 61 rfl) rfl ?_
                    refine o_icN X207 H (od dB8 62 rfl) (tlt (own_olt (by omega) (by omega))).2.1 ?_
                    refine o_aldN X207 H (od dB8 63 rfl) rfl rfl ?_
                    refine o_ildN X207 H (od dB8 64 rfl) rfl ?_
                    have vc208 : (own_cs ld ((false, c0) :: (true, c1) :: (true, c2) :: es2) tl).getD (ld + 1 + 4) 0 = c2 := (own_mid _ _ _ _).trans rfl
                    obtain ⟨cq208, kq208, q208a, q208b, q208c⟩ := isOf hZ e207 ((((Ex.ext E149).keep K150).keep K155).keep K190)
                    obtain ⟨_, _, ⟨T208, L208, k208, n208⟩, -, X208, ⟨Lc208, hQ208, l208, y208, z208⟩, st208⟩ := X207.virtualBack hx (y := (⟨"java/lang/String", "charAt", "(I)C"⟩ : MethodName)) (z := (⟨"java/lang/String", "charAt", "(I)C"⟩ : MethodName)) hown (mvT hZ (ow hw 48 rfl)) (mvT hZ (ow hw 49 rfl)) (notFace_of_selects (args := #[]) (mvT hZ (ow hw 51 rfl))) (mvT hZ (ow hw 51 rfl)) (mvT hZ (ow hw 50 rfl)) (by decide) (StrChars.Road.chN (W := 0) hZ (own_wC hw) (ow hw 6 rfl) ((((Ex.ext E149).keep K150).keep K155).keep K190) y193 y194 y195 cod r16 (SC.ext y192.2) hz (SF.ext y192.2) hfm (i := ld + 1 + 4) (by rw [own_lenC]; omega) (by rw [own_lenC]; simp only [own_enc, List.length_cons, List.length_nil]; omega) rfl (by decide) (by decide)) q208a q208c (g := (mkF m 125 #[.val (.ref x), .val (.int (Int32.ofNat (Q + 1))), .val (.int (Int32.ofNat (ld + 1 + 4))), .val (.ref b149), .val (.int (92 : Int32))] [(.int (Int32.ofNat (ld + 1 + 4))), (.ref x)])) rfl hml.symm (Steps.refl _) (argsL := [(.int (Int32.ofNat (ld + 1 + 4)))]) (rest := []) (lenOf pd_11 rfl) rfl (o_mr rfl) (hb hby (od dB8 65 rfl)) (fun _ _ => ⟨rfl, e207, (by decide : 2 + 0 ≤ _), (by decide : 20 + 0 ≤ _)⟩)
                    dsimp only [Pt.U, Pt.locs, Pt.cells, Pt.slots] at X208 l208 y208 z208 st208 hQ208
                    replace l208 := l208.symm; replace y208 := y208.symm; replace z208 := z208.symm; subst l208 y208 z208
                    obtain ⟨rfl, rfl, e208⟩ := hQ208
                    have N208 := Fr.app N207 (Fr.nil n0)
                    rw [vc208] at st208
                    refine own_via st208 ?_
                    show own_Fin p e below _ (T208.setTop (mkF m 128 #[.val (.ref x), .val (.int (Int32.ofNat (Q + 1))), .val (.int (Int32.ofNat (ld + 1 + 4))), .val (.ref b149), .val (.int (92 : Int32))] [(.int c2)]))
                    refine o_go X208 H (od dB8 66 rfl) (pc' := 132) (by decide) (by decide) ?_
                    refine o_ist X208 H (od dB8 68 rfl) (L' := #[.val (.ref x), .val (.int (Int32.ofNat (Q + 1))), .val (.int (Int32.ofNat (ld + 1 + 4))), .val (.ref b149), .val (.int c2)]) rfl ?_
                    refine own_merge (B := (T208.setTop (mkF m 188 #[.val (.ref x), .val (.int (Int32.ofNat (Q + 1))), .val (.int (Int32.ofNat (ld + 1 + 4))), .val (.ref b149), .val (.int c2)] []))) ?_ (fun HM => ?_)
                    · show own_Fin p e below _ (T208.setTop (mkF m 188 #[.val (.ref x), .val (.int (Int32.ofNat (Q + 1))), .val (.int (Int32.ofNat (ld + 1 + 4))), .val (.ref b149), .val (.int c2)] []))
                      refine o_aldN X208 H (od dB8 93 rfl) rfl rfl ?_
                      refine o_ild X208 H (od dB8 94 rfl) rfl ?_
                      refine o_vs (argsL := [(.int c2)]) (rest := []) X208 H hml hZ hown (ow hw 143 rfl) (ow hw 144 rfl) (ow hw 146 rfl) (ow hw 145 rfl) (backOf (W := 0) (rmPb2 l Z a0 hw [] b149 c2 z tb150 kt150 c0 c1 T190.heap n0 (by exact (Nat.le_trans (Nat.le_trans (Nat.le_trans (Nat.le_trans Z0 E149.1) K150.1) K155.1) K190.1)) hz y192 SC Eq190 Vq190 Cq190 Dq190 Aq190 gn149 gt150 ne150_b149 (own_u255 u2)) hZ (ow hw 147 rfl) (ow hw 72 rfl) (by decide) (by decide)) (by decide) Eq190 e208 pd_14 (od dB8 95 rfl) rfl rfl rfl rfl rfl (by decide) (by decide) fun _ T209 Lc209 X209 hQ209 => ?_
                      obtain ⟨rfl, N209q, K209, Eq209, Vq209, Cq209, Dq209, Aq209⟩ := hQ209
                      have N209 := Fr.app N208 N209q
                      have y210 := (y191.trans K209 (allS (Or.inr gk149) (allS (Or.inr (Nat.le_trans ((Keep.refl h0 []).ext E149).1 gk150)) all0)))
                      have y211 := (Nat.le_trans (Nat.le_trans (Nat.le_trans (Nat.le_trans (Nat.le_trans Z0 E149.1) K150.1) K155.1) K190.1) K209.1)
                      show own_Fin p e below _ (T209.setTop (mkF m 194 #[.val (.ref x), .val (.int (Int32.ofNat (Q + 1))), .val (.int (Int32.ofNat (ld + 1 + 4))), .val (.ref b149), .val (.int c2)] [(.ref b149)]))
                      refine o_pop X209 H (od dB8 96 rfl) rfl ?_
                      refine own_on (fun tq => XS.iinc X209.here hx rfl (hb hby (od dB8 97 rfl)) rfl (l' := #[.val (.ref x), .val (.int (Int32.ofNat (Q + 1))), .val (.int ((Int32.ofNat (ld + 1 + 4)) + (1 : Int32))), .val (.ref b149), .val (.int c2)]) rfl) ?_
                      show own_Fin p e below _ (T209.setTop (mkF m 198 #[.val (.ref x), .val (.int (Int32.ofNat (Q + 1))), .val (.int ((Int32.ofNat (ld + 1 + 4)) + (1 : Int32))), .val (.ref b149), .val (.int c2)] []))
                      refine o_go X209 H (od dB8 98 rfl) (pc' := 86) (by decide) (by decide) ?_
                      rw [own_inc]
                      show own_Fin p e below _ (T209.setTop (mkF m 86 #[.val (.ref x), .val (.int (Int32.ofNat (Q + 1))), .val (.int (Int32.ofNat (ld + 1 + 5))), .val (.ref b149), .val (.int c2)] []))
                      rcases es2 with _ | ⟨⟨b3, c3⟩, es3⟩
                      · have hP : Q = ld + 1 + 5 := by rw [hQ]; simp only [own_enc, List.length_cons, List.length_nil]
                        show own_Fin p e below _ (T209.setTop (mkF m 86 #[.val (.ref x), .val (.int (Int32.ofNat (Q + 1))), .val (.int (Int32.ofNat (ld + 1 + 5))), .val (.ref b149), .val (.int c2)] []))
                        refine o_ildN X209 H (od dB8 44 rfl) rfl ?_
                        refine o_ildN X209 H (od dB8 45 rfl) rfl ?_
                        refine o_icN X209 H (od dB8 46 rfl) (tlt (own_olt (by omega) (by omega))).2.1 ?_
                        refine o_aldN X209 H (od dB8 47 rfl) rfl rfl ?_
                        refine o_ildN X209 H (od dB8 48 rfl) rfl ?_
                        have vc212 : (own_cs ld ((false, c0) :: (true, c1) :: (true, c2) :: []) tl).getD (ld + 1 + 5) 0 = (34 : Int32) := (own_mid _ _ _ _).trans rfl
                        obtain ⟨cq212, kq212, q212a, q212b, q212c⟩ := isOf hZ rfl (((((Ex.ext E149).keep K150).keep K155).keep K190).keep K209)
                        obtain ⟨_, _, ⟨T212, L212, k212, n212⟩, -, X212, ⟨Lc212, hQ212, l212, y212, z212⟩, st212⟩ := X209.virtualBack hx (y := (⟨"java/lang/String", "charAt", "(I)C"⟩ : MethodName)) (z := (⟨"java/lang/String", "charAt", "(I)C"⟩ : MethodName)) hown (mvT hZ (ow hw 48 rfl)) (mvT hZ (ow hw 49 rfl)) (notFace_of_selects (args := #[]) (mvT hZ (ow hw 51 rfl))) (mvT hZ (ow hw 51 rfl)) (mvT hZ (ow hw 50 rfl)) (by decide) (StrChars.Road.chN (W := 0) hZ (own_wC hw) (ow hw 6 rfl) (((((Ex.ext E149).keep K150).keep K155).keep K190).keep K209) (y193.keep K209 (ninS ne149_x (ninS ne150_x nin0))) (y194.keep K209 (ninS ne149_x (ninS ne150_x nin0))) (y195.keep K209 (ninS ne149_tx (ninS ne150_tx nin0))) cod r16 (SC.ext (y192.keep K209 (allS gn149 (allS gt150 all0))).2) hz (SF.ext (y192.keep K209 (allS gn149 (allS gt150 all0))).2) hfm (i := ld + 1 + 5) (by rw [own_lenC]; omega) (by rw [own_lenC]; simp only [own_enc, List.length_cons, List.length_nil]; omega) rfl (by decide) (by decide)) q212a q212c (g := (mkF m 93 #[.val (.ref x), .val (.int (Int32.ofNat (Q + 1))), .val (.int (Int32.ofNat (ld + 1 + 5))), .val (.ref b149), .val (.int c2)] [(.int (Int32.ofNat (ld + 1 + 5))), (.ref x)])) rfl hml.symm (Steps.refl _) (argsL := [(.int (Int32.ofNat (ld + 1 + 5)))]) (rest := []) (lenOf pd_11 rfl) rfl (o_mr rfl) (hb hby (od dB8 49 rfl)) (fun _ _ => ⟨rfl, rfl, (by decide : 2 + 0 ≤ _), (by decide : 20 + 0 ≤ _)⟩)
                        dsimp only [Pt.U, Pt.locs, Pt.cells, Pt.slots] at X212 l212 y212 z212 st212 hQ212
                        replace l212 := l212.symm; replace y212 := y212.symm; replace z212 := z212.symm; subst l212 y212 z212
                        obtain ⟨rfl, rfl, e212⟩ := hQ212
                        have N212 := Fr.app N209 (Fr.nil n0)
                        rw [vc212] at st212
                        refine own_via st212 ?_
                        show own_Fin p e below _ (T212.setTop (mkF m 96 #[.val (.ref x), .val (.int (Int32.ofNat (Q + 1))), .val (.int (Int32.ofNat (ld + 1 + 5))), .val (.ref b149), .val (.int c2)] [(.int (34 : Int32))]))
                        refine o_bi X212 H (od dB8 50 rfl) (v := 34) rfl ?_
                        refine o_icY X212 H (od dB8 51 rfl) (teq (by decide : (34 : Int32) = (34 : Int32))).1 (pc' := 201) (by decide) (by decide) ?_
                        refine o_ildN X212 H (od dB8 99 rfl) rfl ?_
                        refine o_ildN X212 H (od dB8 100 rfl) rfl ?_
                        refine o_ic X212 H (od dB8 101 rfl) (v := 1) rfl ?_
                        refine o_isub X212 H (od dB8 102 rfl) ?_
                        rw [own_sub1]
                        show own_Fin p e below _ (T212.setTop (mkF m 205 #[.val (.ref x), .val (.int (Int32.ofNat (Q + 1))), .val (.int (Int32.ofNat (ld + 1 + 5))), .val (.ref b149), .val (.int c2)] [(.int (Int32.ofNat Q)), (.int (Int32.ofNat (ld + 1 + 5)))]))
                        refine o_icY X212 H (od dB8 103 rfl) (teq (congrArg Int32.ofNat hP.symm)).1 (pc' := 218) (by decide) (by decide) ?_
                        refine o_aldN X212 H (od dB8 109 rfl) rfl rfl ?_
                        refine o_vs (argsL := []) (rest := []) X212 H hml hZ hown (ow hw 88 rfl) (ow hw 89 rfl) (ow hw 91 rfl) (ow hw 90 rfl) (backOf (W := 0) (rmTs3 l Z a0 hw [] b149 z tb150 kt150 c0 c1 c2 T209.heap n0 (by exact y211) hz (y192.keep K209 (allS gn149 (allS gt150 all0))) SC Eq209 Vq209 Cq209 Dq209 Aq209 gn149 gt150 ne150_b149) hZ (ow hw 92 rfl) (ow hw 72 rfl) (by decide) (by decide)) (by decide) Eq209 e212 pd_13 (od dB8 110 rfl) rfl rfl rfl rfl rfl (by decide) (by decide) fun _ T213 Lc213 X213 hQ213 => ?_
                        obtain ⟨y213s, x213, kx213, rfl, N213q, K213, gk213, Eq213, Cq213, Vq213, Aq213⟩ := hQ213
                        have N213 := Fr.app N212 N213q
                        show own_Fin p e below _ (T213.setTop (mkF m 222 #[.val (.ref x), .val (.int (Int32.ofNat (Q + 1))), .val (.int (Int32.ofNat (ld + 1 + 5))), .val (.ref b149), .val (.int c2)] [(.ref y213s)]))
                        exact own_ret (t := (.object "java/lang/String")) X213 hx hlk hret rfl (Or.inr (Or.inr (Or.inr (Or.inr ⟨rfl, rfl, rfl⟩)))) (hb hby (od dB8 111 rfl)) (by show Q8 Z x z fm tx kx ld tl ((false, c0) :: (true, c1) :: (true, c2) :: []) N2 vs h0 n0 _ T213.heap _; exact ⟨y213s, x213, kx213, rfl, N213, (y210.trans K213 all0), Eq213, Cq213, Vq213, Aq213⟩) (by decide) (by decide)
                      · exact absurd hes (by simp)
                    · show own_Fin p e below _ (T208.setTop (mkF m 134 #[.val (.ref x), .val (.int (Int32.ofNat (Q + 1))), .val (.int (Int32.ofNat (ld + 1 + 4))), .val (.ref b149), .val (.int c2)] []))
                      refine o_ild X208 H (od dB8 69 rfl) rfl ?_
                      refine o_bi X208 H (od dB8 70 rfl) (v := 34) rfl ?_
                      by_cases hc214 : c2 = (34 : Int32)
                      · refine o_icY X208 H (od dB8 71 rfl) (teq hc214).1 (pc' := 188) (by decide) (by decide) ?_
                        exact HM
                      · refine o_icN X208 H (od dB8 71 rfl) (feq hc214).1 ?_
                        refine o_ild X208 H (od dB8 72 rfl) rfl ?_
                        refine o_bi X208 H (od dB8 73 rfl) (v := 92) rfl ?_
                        refine o_icY X208 H (od dB8 74 rfl) (teq (own_or2 u2 hc214)).1 (pc' := 188) (by decide) (by decide) ?_
                        exact HM
              · show own_Fin p e below _ (T189.setTop (mkF m 134 #[.val (.ref x), .val (.int (Int32.ofNat (Q + 1))), .val (.int (Int32.ofNat (ld + 1 + 2))), .val (.ref b149), .val (.int c1)] []))
                refine o_ild X189 H (od dB8 69 rfl) rfl ?_
                refine o_bi X189 H (od dB8 70 rfl) (v := 34) rfl ?_
                by_cases hc215 : c1 = (34 : Int32)
                · refine o_icY X189 H (od dB8 71 rfl) (teq hc215).1 (pc' := 188) (by decide) (by decide) ?_
                  exact HM
                · refine o_icN X189 H (od dB8 71 rfl) (feq hc215).1 ?_
                  refine o_ild X189 H (od dB8 72 rfl) rfl ?_
                  refine o_bi X189 H (od dB8 73 rfl) (v := 92) rfl ?_
                  refine o_icY X189 H (od dB8 74 rfl) (teq (own_or2 u1 hc215)).1 (pc' := 188) (by decide) (by decide) ?_
                  exact HM
        · have u0 : own_unit (true, c0) := hu _ (List.mem_of_getElem? (i := 0) rfl)
          have hP0 : Q = ld + 1 + 2 + (own_enc es0).length := by rw [hQ]; simp only [own_enc, List.length_cons]; omega
          show own_Fin p e below _ (T150.setTop (mkF m 86 #[.val (.ref x), .val (.int (Int32.ofNat (Q + 1))), .val (.int (Int32.ofNat (ld + 1 + 0))), .val (.ref b149), .unset] []))
          refine o_ildN X150 H (od dB8 44 rfl) rfl ?_
          refine o_ildN X150 H (od dB8 45 rfl) rfl ?_
          refine o_icN X150 H (od dB8 46 rfl) (tlt (own_olt (by omega) (by omega))).2.1 ?_
          refine o_aldN X150 H (od dB8 47 rfl) rfl rfl ?_
          refine o_ildN X150 H (od dB8 48 rfl) rfl ?_
          have vc216 : (own_cs ld ((true, c0) :: es0) tl).getD (ld + 1 + 0) 0 = (92 : Int32) := (own_mid _ _ _ _).trans rfl
          obtain ⟨cq216, kq216, q216a, q216b, q216c⟩ := isOf hZ rfl ((Ex.ext E149).keep K150)
          obtain ⟨_, _, ⟨T216, L216, k216, n216⟩, -, X216, ⟨Lc216, hQ216, l216, y216, z216⟩, st216⟩ := X150.virtualBack hx (y := (⟨"java/lang/String", "charAt", "(I)C"⟩ : MethodName)) (z := (⟨"java/lang/String", "charAt", "(I)C"⟩ : MethodName)) hown (mvT hZ (ow hw 48 rfl)) (mvT hZ (ow hw 49 rfl)) (notFace_of_selects (args := #[]) (mvT hZ (ow hw 51 rfl))) (mvT hZ (ow hw 51 rfl)) (mvT hZ (ow hw 50 rfl)) (by decide) (StrChars.Road.chN (W := 0) hZ (own_wC hw) (ow hw 6 rfl) ((Ex.ext E149).keep K150) ((Vx.ext E149).keep K150 (ninS ne149_x nin0)) ((Cx.ext E149).keep K150 (ninS ne149_x nin0)) ((Kx.ext E149).keep K150 (ninS ne149_tx nin0)) cod r16 (SC.ext ((O.ext E149).keep K150 (allS gn149 all0)).2) hz (SF.ext ((O.ext E149).keep K150 (allS gn149 all0)).2) hfm (i := ld + 1 + 0) (by rw [own_lenC]; omega) (by rw [own_lenC]; simp only [own_enc, List.length_cons, List.length_nil]; omega) rfl (by decide) (by decide)) q216a q216c (g := (mkF m 93 #[.val (.ref x), .val (.int (Int32.ofNat (Q + 1))), .val (.int (Int32.ofNat (ld + 1 + 0))), .val (.ref b149), .unset] [(.int (Int32.ofNat (ld + 1 + 0))), (.ref x)])) rfl hml.symm (Steps.refl _) (argsL := [(.int (Int32.ofNat (ld + 1 + 0)))]) (rest := []) (lenOf pd_11 rfl) rfl (o_mr rfl) (hb hby (od dB8 49 rfl)) (fun _ _ => ⟨rfl, rfl, (by decide : 2 + 0 ≤ _), (by decide : 20 + 0 ≤ _)⟩)
          dsimp only [Pt.U, Pt.locs, Pt.cells, Pt.slots] at X216 l216 y216 z216 st216 hQ216
          replace l216 := l216.symm; replace y216 := y216.symm; replace z216 := z216.symm; subst l216 y216 z216
          obtain ⟨rfl, rfl, e216⟩ := hQ216
          have N216 := Fr.app N150 (Fr.nil n0)
          rw [vc216] at st216
          refine own_via st216 ?_
          show own_Fin p e below _ (T216.setTop (mkF m 96 #[.val (.ref x), .val (.int (Int32.ofNat (Q + 1))), .val (.int (Int32.ofNat (ld + 1 + 0))), .val (.ref b149), .unset] [(.int (92 : Int32))]))
          refine o_bi X216 H (od dB8 50 rfl) (v := 34) rfl ?_
          refine o_icN X216 H (od dB8 51 rfl) (feq (by decide : ¬ ((92 : Int32) = (34 : Int32)))).1 ?_
          refine o_aldN X216 H (od dB8 52 rfl) rfl rfl ?_
          refine o_ildN X216 H (od dB8 53 rfl) rfl ?_
          have vc217 : (own_cs ld ((true, c0) :: es0) tl).getD (ld + 1 + 0) 0 = (92 : Int32) := (own_mid _ _ _ _).trans rfl
          obtain ⟨cq217, kq217, q217a, q217b, q217c⟩ := isOf hZ e216 ((Ex.ext E149).keep K150)
          obtain ⟨_, _, ⟨T217, L217, k217, n217⟩, -, X217, ⟨Lc217, hQ217, l217, y217, z217⟩, st217⟩ := X216.virtualBack hx (y := (⟨"java/lang/String", "charAt", "(I)C"⟩ : MethodName)) (z := (⟨"java/lang/String", "charAt", "(I)C"⟩ : MethodName)) hown (mvT hZ (ow hw 48 rfl)) (mvT hZ (ow hw 49 rfl)) (notFace_of_selects (args := #[]) (mvT hZ (ow hw 51 rfl))) (mvT hZ (ow hw 51 rfl)) (mvT hZ (ow hw 50 rfl)) (by decide) (StrChars.Road.chN (W := 0) hZ (own_wC hw) (ow hw 6 rfl) ((Ex.ext E149).keep K150) ((Vx.ext E149).keep K150 (ninS ne149_x nin0)) ((Cx.ext E149).keep K150 (ninS ne149_x nin0)) ((Kx.ext E149).keep K150 (ninS ne149_tx nin0)) cod r16 (SC.ext ((O.ext E149).keep K150 (allS gn149 all0)).2) hz (SF.ext ((O.ext E149).keep K150 (allS gn149 all0)).2) hfm (i := ld + 1 + 0) (by rw [own_lenC]; omega) (by rw [own_lenC]; simp only [own_enc, List.length_cons, List.length_nil]; omega) rfl (by decide) (by decide)) q217a q217c (g := (mkF m 103 #[.val (.ref x), .val (.int (Int32.ofNat (Q + 1))), .val (.int (Int32.ofNat (ld + 1 + 0))), .val (.ref b149), .unset] [(.int (Int32.ofNat (ld + 1 + 0))), (.ref x)])) rfl hml.symm (Steps.refl _) (argsL := [(.int (Int32.ofNat (ld + 1 + 0)))]) (rest := []) (lenOf pd_11 rfl) rfl (o_mr rfl) (hb hby (od dB8 54 rfl)) (fun _ _ => ⟨rfl, e216, (by decide : 2 + 0 ≤ _), (by decide : 20 + 0 ≤ _)⟩)
          dsimp only [Pt.U, Pt.locs, Pt.cells, Pt.slots] at X217 l217 y217 z217 st217 hQ217
          replace l217 := l217.symm; replace y217 := y217.symm; replace z217 := z217.symm; subst l217 y217 z217
          obtain ⟨rfl, rfl, e217⟩ := hQ217
          have N217 := Fr.app N216 (Fr.nil n0)
          rw [vc217] at st217
          refine own_via st217 ?_
          show own_Fin p e below _ (T217.setTop (mkF m 106 #[.val (.ref x), .val (.int (Int32.ofNat (Q + 1))), .val (.int (Int32.ofNat (ld + 1 + 0))), .val (.ref b149), .unset] [(.int (92 : Int32))]))
          refine o_ist X217 H (od dB8 55 rfl) (L' := #[.val (.ref x), .val (.int (Int32.ofNat (Q + 1))), .val (.int (Int32.ofNat (ld + 1 + 0))), .val (.ref b149), .val (.int (92 : Int32))]) rfl ?_
          refine o_ild X217 H (od dB8 56 rfl) rfl ?_
          refine o_bi X217 H (od dB8 57 rfl) (v := 92) rfl ?_
          refine o_icN X217 H (od dB8 58 rfl) (teq (by decide : (92 : Int32) = (92 : Int32))).2 ?_
          refine own_on (fun tq => XS.iinc X217.here hx rfl (hb hby (od dB8 59 rfl)) rfl (l' := #[.val (.ref x), .val (.int (Int32.ofNat (Q + 1))), .val (.int ((Int32.ofNat (ld + 1 + 0)) + (1 : Int32))), .val (.ref b149), .val (.int (92 : Int32))]) rfl) ?_
          show own_Fin p e below _ (T217.setTop (mkF m 118 #[.val (.ref x), .val (.int (Int32.ofNat (Q + 1))), .val (.int ((Int32.ofNat (ld + 1 + 0)) + (1 : Int32))), .val (.ref b149), .val (.int (92 : Int32))] []))
          rw [own_inc]
          show own_Fin p e below _ (T217.setTop (mkF m 118 #[.val (.ref x), .val (.int (Int32.ofNat (Q + 1))), .val (.int (Int32.ofNat (ld + 1 + 1))), .val (.ref b149), .val (.int (92 : Int32))] []))
          refine o_ildN X217 H (od dB8 60 rfl) rfl ?_
          refine o_ildN X217 H (od dB8 61 rfl) rfl ?_
          refine o_icN X217 H (od dB8 62 rfl) (tlt (own_olt (by omega) (by omega))).2.1 ?_
          refine o_aldN X217 H (od dB8 63 rfl) rfl rfl ?_
          refine o_ildN X217 H (od dB8 64 rfl) rfl ?_
          have vc218 : (own_cs ld ((true, c0) :: es0) tl).getD (ld + 1 + 1) 0 = c0 := (own_mid _ _ _ _).trans rfl
          obtain ⟨cq218, kq218, q218a, q218b, q218c⟩ := isOf hZ e217 ((Ex.ext E149).keep K150)
          obtain ⟨_, _, ⟨T218, L218, k218, n218⟩, -, X218, ⟨Lc218, hQ218, l218, y218, z218⟩, st218⟩ := X217.virtualBack hx (y := (⟨"java/lang/String", "charAt", "(I)C"⟩ : MethodName)) (z := (⟨"java/lang/String", "charAt", "(I)C"⟩ : MethodName)) hown (mvT hZ (ow hw 48 rfl)) (mvT hZ (ow hw 49 rfl)) (notFace_of_selects (args := #[]) (mvT hZ (ow hw 51 rfl))) (mvT hZ (ow hw 51 rfl)) (mvT hZ (ow hw 50 rfl)) (by decide) (StrChars.Road.chN (W := 0) hZ (own_wC hw) (ow hw 6 rfl) ((Ex.ext E149).keep K150) ((Vx.ext E149).keep K150 (ninS ne149_x nin0)) ((Cx.ext E149).keep K150 (ninS ne149_x nin0)) ((Kx.ext E149).keep K150 (ninS ne149_tx nin0)) cod r16 (SC.ext ((O.ext E149).keep K150 (allS gn149 all0)).2) hz (SF.ext ((O.ext E149).keep K150 (allS gn149 all0)).2) hfm (i := ld + 1 + 1) (by rw [own_lenC]; omega) (by rw [own_lenC]; simp only [own_enc, List.length_cons, List.length_nil]; omega) rfl (by decide) (by decide)) q218a q218c (g := (mkF m 125 #[.val (.ref x), .val (.int (Int32.ofNat (Q + 1))), .val (.int (Int32.ofNat (ld + 1 + 1))), .val (.ref b149), .val (.int (92 : Int32))] [(.int (Int32.ofNat (ld + 1 + 1))), (.ref x)])) rfl hml.symm (Steps.refl _) (argsL := [(.int (Int32.ofNat (ld + 1 + 1)))]) (rest := []) (lenOf pd_11 rfl) rfl (o_mr rfl) (hb hby (od dB8 65 rfl)) (fun _ _ => ⟨rfl, e217, (by decide : 2 + 0 ≤ _), (by decide : 20 + 0 ≤ _)⟩)
          dsimp only [Pt.U, Pt.locs, Pt.cells, Pt.slots] at X218 l218 y218 z218 st218 hQ218
          replace l218 := l218.symm; replace y218 := y218.symm; replace z218 := z218.symm; subst l218 y218 z218
          obtain ⟨rfl, rfl, e218⟩ := hQ218
          have N218 := Fr.app N217 (Fr.nil n0)
          rw [vc218] at st218
          refine own_via st218 ?_
          show own_Fin p e below _ (T218.setTop (mkF m 128 #[.val (.ref x), .val (.int (Int32.ofNat (Q + 1))), .val (.int (Int32.ofNat (ld + 1 + 1))), .val (.ref b149), .val (.int (92 : Int32))] [(.int c0)]))
          refine o_go X218 H (od dB8 66 rfl) (pc' := 132) (by decide) (by decide) ?_
          refine o_ist X218 H (od dB8 68 rfl) (L' := #[.val (.ref x), .val (.int (Int32.ofNat (Q + 1))), .val (.int (Int32.ofNat (ld + 1 + 1))), .val (.ref b149), .val (.int c0)]) rfl ?_
          refine own_merge (B := (T218.setTop (mkF m 188 #[.val (.ref x), .val (.int (Int32.ofNat (Q + 1))), .val (.int (Int32.ofNat (ld + 1 + 1))), .val (.ref b149), .val (.int c0)] []))) ?_ (fun HM => ?_)
          · show own_Fin p e below _ (T218.setTop (mkF m 188 #[.val (.ref x), .val (.int (Int32.ofNat (Q + 1))), .val (.int (Int32.ofNat (ld + 1 + 1))), .val (.ref b149), .val (.int c0)] []))
            refine o_aldN X218 H (od dB8 93 rfl) rfl rfl ?_
            refine o_ild X218 H (od dB8 94 rfl) rfl ?_
            refine o_vs (argsL := [(.int c0)]) (rest := []) X218 H hml hZ hown (ow hw 143 rfl) (ow hw 144 rfl) (ow hw 146 rfl) (ow hw 145 rfl) (backOf (W := 0) (rmPb0 l Z a0 hw [] b149 c0 z tb150 kt150 T150.heap n0 (by exact (Nat.le_trans (Nat.le_trans Z0 E149.1) K150.1)) hz ((O.ext E149).keep K150 (allS gn149 all0)) SC Eq150 Vq150 Cq150 Dq150 Aq150 gn149 gt150 ne150_b149 (own_u255 u0)) hZ (ow hw 147 rfl) (ow hw 72 rfl) (by decide) (by decide)) (by decide) Eq150 e218 pd_14 (od dB8 95 rfl) rfl rfl rfl rfl rfl (by decide) (by decide) fun _ T219 Lc219 X219 hQ219 => ?_
            obtain ⟨rfl, N219q, K219, Eq219, Vq219, Cq219, Dq219, Aq219⟩ := hQ219
            have N219 := Fr.app N218 N219q
            have y220 := ((((Keep.refl h0 []).ext E149).trans K150 (allS (Or.inr gk149) all0)).trans K219 (allS (Or.inr gk149) (allS (Or.inr (Nat.le_trans ((Keep.refl h0 []).ext E149).1 gk150)) all0)))
            show own_Fin p e below _ (T219.setTop (mkF m 194 #[.val (.ref x), .val (.int (Int32.ofNat (Q + 1))), .val (.int (Int32.ofNat (ld + 1 + 1))), .val (.ref b149), .val (.int c0)] [(.ref b149)]))
            refine o_pop X219 H (od dB8 96 rfl) rfl ?_
            refine own_on (fun tq => XS.iinc X219.here hx rfl (hb hby (od dB8 97 rfl)) rfl (l' := #[.val (.ref x), .val (.int (Int32.ofNat (Q + 1))), .val (.int ((Int32.ofNat (ld + 1 + 1)) + (1 : Int32))), .val (.ref b149), .val (.int c0)]) rfl) ?_
            show own_Fin p e below _ (T219.setTop (mkF m 198 #[.val (.ref x), .val (.int (Int32.ofNat (Q + 1))), .val (.int ((Int32.ofNat (ld + 1 + 1)) + (1 : Int32))), .val (.ref b149), .val (.int c0)] []))
            refine o_go X219 H (od dB8 98 rfl) (pc' := 86) (by decide) (by decide) ?_
            rw [own_inc]
            show own_Fin p e below _ (T219.setTop (mkF m 86 #[.val (.ref x), .val (.int (Int32.ofNat (Q + 1))), .val (.int (Int32.ofNat (ld + 1 + 2))), .val (.ref b149), .val (.int c0)] []))
            rcases es0 with _ | ⟨⟨b1, c1⟩, es1⟩
            · have hP : Q = ld + 1 + 2 := by rw [hQ]; simp only [own_enc, List.length_cons, List.length_nil]
              show own_Fin p e below _ (T219.setTop (mkF m 86 #[.val (.ref x), .val (.int (Int32.ofNat (Q + 1))), .val (.int (Int32.ofNat (ld + 1 + 2))), .val (.ref b149), .val (.int c0)] []))
              refine o_ildN X219 H (od dB8 44 rfl) rfl ?_
              refine o_ildN X219 H (od dB8 45 rfl) rfl ?_
              refine o_icN X219 H (od dB8 46 rfl) (tlt (own_olt (by omega) (by omega))).2.1 ?_
              refine o_aldN X219 H (od dB8 47 rfl) rfl rfl ?_
              refine o_ildN X219 H (od dB8 48 rfl) rfl ?_
              have vc221 : (own_cs ld ((true, c0) :: []) tl).getD (ld + 1 + 2) 0 = (34 : Int32) := (own_mid _ _ _ _).trans rfl
              obtain ⟨cq221, kq221, q221a, q221b, q221c⟩ := isOf hZ rfl (((Ex.ext E149).keep K150).keep K219)
              obtain ⟨_, _, ⟨T221, L221, k221, n221⟩, -, X221, ⟨Lc221, hQ221, l221, y221, z221⟩, st221⟩ := X219.virtualBack hx (y := (⟨"java/lang/String", "charAt", "(I)C"⟩ : MethodName)) (z := (⟨"java/lang/String", "charAt", "(I)C"⟩ : MethodName)) hown (mvT hZ (ow hw 48 rfl)) (mvT hZ (ow hw 49 rfl)) (notFace_of_selects (args := #[]) (mvT hZ (ow hw 51 rfl))) (mvT hZ (ow hw 51 rfl)) (mvT hZ (ow hw 50 rfl)) (by decide) (StrChars.Road.chN (W := 0) hZ (own_wC hw) (ow hw 6 rfl) (((Ex.ext E149).keep K150).keep K219) (((Vx.ext E149).keep K150 (ninS ne149_x nin0)).keep K219 (ninS ne149_x (ninS ne150_x nin0))) (((Cx.ext E149).keep K150 (ninS ne149_x nin0)).keep K219 (ninS ne149_x (ninS ne150_x nin0))) (((Kx.ext E149).keep K150 (ninS ne149_tx nin0)).keep K219 (ninS ne149_tx (ninS ne150_tx nin0))) cod r16 (SC.ext (((O.ext E149).keep K150 (allS gn149 all0)).keep K219 (allS gn149 (allS gt150 all0))).2) hz (SF.ext (((O.ext E149).keep K150 (allS gn149 all0)).keep K219 (allS gn149 (allS gt150 all0))).2) hfm (i := ld + 1 + 2) (by rw [own_lenC]; omega) (by rw [own_lenC]; simp only [own_enc, List.length_cons, List.length_nil]; omega) rfl (by decide) (by decide)) q221a q221c (g := (mkF m 93 #[.val (.ref x), .val (.int (Int32.ofNat (Q + 1))), .val (.int (Int32.ofNat (ld + 1 + 2))), .val (.ref b149), .val (.int c0)] [(.int (Int32.ofNat (ld + 1 + 2))), (.ref x)])) rfl hml.symm (Steps.refl _) (argsL := [(.int (Int32.ofNat (ld + 1 + 2)))]) (rest := []) (lenOf pd_11 rfl) rfl (o_mr rfl) (hb hby (od dB8 49 rfl)) (fun _ _ => ⟨rfl, rfl, (by decide : 2 + 0 ≤ _), (by decide : 20 + 0 ≤ _)⟩)
              dsimp only [Pt.U, Pt.locs, Pt.cells, Pt.slots] at X221 l221 y221 z221 st221 hQ221
              replace l221 := l221.symm; replace y221 := y221.symm; replace z221 := z221.symm; subst l221 y221 z221
              obtain ⟨rfl, rfl, e221⟩ := hQ221
              have N221 := Fr.app N219 (Fr.nil n0)
              rw [vc221] at st221
              refine own_via st221 ?_
              show own_Fin p e below _ (T221.setTop (mkF m 96 #[.val (.ref x), .val (.int (Int32.ofNat (Q + 1))), .val (.int (Int32.ofNat (ld + 1 + 2))), .val (.ref b149), .val (.int c0)] [(.int (34 : Int32))]))
              refine o_bi X221 H (od dB8 50 rfl) (v := 34) rfl ?_
              refine o_icY X221 H (od dB8 51 rfl) (teq (by decide : (34 : Int32) = (34 : Int32))).1 (pc' := 201) (by decide) (by decide) ?_
              refine o_ildN X221 H (od dB8 99 rfl) rfl ?_
              refine o_ildN X221 H (od dB8 100 rfl) rfl ?_
              refine o_ic X221 H (od dB8 101 rfl) (v := 1) rfl ?_
              refine o_isub X221 H (od dB8 102 rfl) ?_
              rw [own_sub1]
              show own_Fin p e below _ (T221.setTop (mkF m 205 #[.val (.ref x), .val (.int (Int32.ofNat (Q + 1))), .val (.int (Int32.ofNat (ld + 1 + 2))), .val (.ref b149), .val (.int c0)] [(.int (Int32.ofNat Q)), (.int (Int32.ofNat (ld + 1 + 2)))]))
              refine o_icY X221 H (od dB8 103 rfl) (teq (congrArg Int32.ofNat hP.symm)).1 (pc' := 218) (by decide) (by decide) ?_
              refine o_aldN X221 H (od dB8 109 rfl) rfl rfl ?_
              refine o_vs (argsL := []) (rest := []) X221 H hml hZ hown (ow hw 88 rfl) (ow hw 89 rfl) (ow hw 91 rfl) (ow hw 90 rfl) (backOf (W := 0) (rmTs1 l Z a0 hw [] b149 z tb150 kt150 c0 T219.heap n0 (by exact (Nat.le_trans (Nat.le_trans (Nat.le_trans Z0 E149.1) K150.1) K219.1)) hz (((O.ext E149).keep K150 (allS gn149 all0)).keep K219 (allS gn149 (allS gt150 all0))) SC Eq219 Vq219 Cq219 Dq219 Aq219 gn149 gt150 ne150_b149) hZ (ow hw 92 rfl) (ow hw 72 rfl) (by decide) (by decide)) (by decide) Eq219 e221 pd_13 (od dB8 110 rfl) rfl rfl rfl rfl rfl (by decide) (by decide) fun _ T222 Lc222 X222 hQ222 => ?_
              obtain ⟨y222s, x222, kx222, rfl, N222q, K222, gk222, Eq222, Cq222, Vq222, Aq222⟩ := hQ222
              have N222 := Fr.app N221 N222q
              have y223 := ((((Kx.ext E149).keep K150 (ninS ne149_tx nin0)).keep K219 (ninS ne149_tx (ninS ne150_tx nin0))).keep K222 nin0)
              show own_Fin p e below _ (T222.setTop (mkF m 222 #[.val (.ref x), .val (.int (Int32.ofNat (Q + 1))), .val (.int (Int32.ofNat (ld + 1 + 2))), .val (.ref b149), .val (.int c0)] [(.ref y222s)]))
              exact own_ret (t := (.object "java/lang/String")) X222 hx hlk hret rfl (Or.inr (Or.inr (Or.inr (Or.inr ⟨rfl, rfl, rfl⟩)))) (hb hby (od dB8 111 rfl)) (by show Q8 Z x z fm tx kx ld tl ((true, c0) :: []) N2 vs h0 n0 _ T222.heap _; exact ⟨y222s, x222, kx222, rfl, N222, (y220.trans K222 all0), Eq222, Cq222, Vq222, Aq222⟩) (by decide) (by decide)
            · cases b1
              · have u1 : own_unit (false, c1) := hu _ (List.mem_of_getElem? (i := 1) rfl)
                have hP1 : Q = ld + 1 + 3 + (own_enc es1).length := by rw [hQ]; simp only [own_enc, List.length_cons]; omega
                show own_Fin p e below _ (T219.setTop (mkF m 86 #[.val (.ref x), .val (.int (Int32.ofNat (Q + 1))), .val (.int (Int32.ofNat (ld + 1 + 2))), .val (.ref b149), .val (.int c0)] []))
                refine o_ildN X219 H (od dB8 44 rfl) rfl ?_
                refine o_ildN X219 H (od dB8 45 rfl) rfl ?_
                refine o_icN X219 H (od dB8 46 rfl) (tlt (own_olt (by omega) (by omega))).2.1 ?_
                refine o_aldN X219 H (od dB8 47 rfl) rfl rfl ?_
                refine o_ildN X219 H (od dB8 48 rfl) rfl ?_
                have vc224 : (own_cs ld ((true, c0) :: (false, c1) :: es1) tl).getD (ld + 1 + 2) 0 = c1 := (own_mid _ _ _ _).trans rfl
                obtain ⟨cq224, kq224, q224a, q224b, q224c⟩ := isOf hZ rfl (((Ex.ext E149).keep K150).keep K219)
                obtain ⟨_, _, ⟨T224, L224, k224, n224⟩, -, X224, ⟨Lc224, hQ224, l224, y224, z224⟩, st224⟩ := X219.virtualBack hx (y := (⟨"java/lang/String", "charAt", "(I)C"⟩ : MethodName)) (z := (⟨"java/lang/String", "charAt", "(I)C"⟩ : MethodName)) hown (mvT hZ (ow hw 48 rfl)) (mvT hZ (ow hw 49 rfl)) (notFace_of_selects (args := #[]) (mvT hZ (ow hw 51 rfl))) (mvT hZ (ow hw 51 rfl)) (mvT hZ (ow hw 50 rfl)) (by decide) (StrChars.Road.chN (W := 0) hZ (own_wC hw) (ow hw 6 rfl) (((Ex.ext E149).keep K150).keep K219) (((Vx.ext E149).keep K150 (ninS ne149_x nin0)).keep K219 (ninS ne149_x (ninS ne150_x nin0))) (((Cx.ext E149).keep K150 (ninS ne149_x nin0)).keep K219 (ninS ne149_x (ninS ne150_x nin0))) (((Kx.ext E149).keep K150 (ninS ne149_tx nin0)).keep K219 (ninS ne149_tx (ninS ne150_tx nin0))) cod r16 (SC.ext (((O.ext E149).keep K150 (allS gn149 all0)).keep K219 (allS gn149 (allS gt150 all0))).2) hz (SF.ext (((O.ext E149).keep K150 (allS gn149 all0)).keep K219 (allS gn149 (allS gt150 all0))).2) hfm (i := ld + 1 + 2) (by rw [own_lenC]; omega) (by rw [own_lenC]; simp only [own_enc, List.length_cons, List.length_nil]; omega) rfl (by decide) (by decide)) q224a q224c (g := (mkF m 93 #[.val (.ref x), .val (.int (Int32.ofNat (Q + 1))), .val (.int (Int32.ofNat (ld + 1 + 2))), .val (.ref b149), .val (.int c0)] [(.int (Int32.ofNat (ld + 1 + 2))), (.ref x)])) rfl hml.symm (Steps.refl _) (argsL := [(.int (Int32.ofNat (ld + 1 + 2)))]) (rest := []) (lenOf pd_11 rfl) rfl (o_mr rfl) (hb hby (od dB8 49 rfl)) (fun _ _ => ⟨rfl, rfl, (by decide : 2 + 0 ≤ _), (by decide : 20 + 0 ≤ _)⟩)
                dsimp only [Pt.U, Pt.locs, Pt.cells, Pt.slots] at X224 l224 y224 z224 st224 hQ224
                replace l224 := l224.symm; replace y224 := y224.symm; replace z224 := z224.symm; subst l224 y224 z224
                obtain ⟨rfl, rfl, e224⟩ := hQ224
                have N224 := Fr.app N219 (Fr.nil n0)
                rw [vc224] at st224
                refine own_via st224 ?_
                show own_Fin p e below _ (T224.setTop (mkF m 96 #[.val (.ref x), .val (.int (Int32.ofNat (Q + 1))), .val (.int (Int32.ofNat (ld + 1 + 2))), .val (.ref b149), .val (.int c0)] [(.int c1)]))
                refine o_bi X224 H (od dB8 50 rfl) (v := 34) rfl ?_
                refine o_icN X224 H (od dB8 51 rfl) (feq (own_uf u1).1).1 ?_
                refine o_aldN X224 H (od dB8 52 rfl) rfl rfl ?_
                refine o_ildN X224 H (od dB8 53 rfl) rfl ?_
                have vc225 : (own_cs ld ((true, c0) :: (false, c1) :: es1) tl).getD (ld + 1 + 2) 0 = c1 := (own_mid _ _ _ _).trans rfl
                obtain ⟨cq225, kq225, q225a, q225b, q225c⟩ := isOf hZ e224 (((Ex.ext E149).keep K150).keep K219)
                obtain ⟨_, _, ⟨T225, L225, k225, n225⟩, -, X225, ⟨Lc225, hQ225, l225, y225, z225⟩, st225⟩ := X224.virtualBack hx (y := (⟨"java/lang/String", "charAt", "(I)C"⟩ : MethodName)) (z := (⟨"java/lang/String", "charAt", "(I)C"⟩ : MethodName)) hown (mvT hZ (ow hw 48 rfl)) (mvT hZ (ow hw 49 rfl)) (notFace_of_selects (args := #[]) (mvT hZ (ow hw 51 rfl))) (mvT hZ (ow hw 51 rfl)) (mvT hZ (ow hw 50 rfl)) (by decide) (StrChars.Road.chN (W := 0) hZ (own_wC hw) (ow hw 6 rfl) (((Ex.ext E149).keep K150).keep K219) (((Vx.ext E149).keep K150 (ninS ne149_x nin0)).keep K219 (ninS ne149_x (ninS ne150_x nin0))) (((Cx.ext E149).keep K150 (ninS ne149_x nin0)).keep K219 (ninS ne149_x (ninS ne150_x nin0))) (((Kx.ext E149).keep K150 (ninS ne149_tx nin0)).keep K219 (ninS ne149_tx (ninS ne150_tx nin0))) cod r16 (SC.ext (((O.ext E149).keep K150 (allS gn149 all0)).keep K219 (allS gn149 (allS gt150 all0))).2) hz (SF.ext (((O.ext E149).keep K150 (allS gn149 all0)).keep K219 (allS gn149 (allS gt150 all0))).2) hfm (i := ld + 1 + 2) (by rw [own_lenC]; omega) (by rw [own_lenC]; simp only [own_enc, List.length_cons, List.length_nil]; omega) rfl (by decide) (by decide)) q225a q225c (g := (mkF m 103 #[.val (.ref x), .val (.int (Int32.ofNat (Q + 1))), .val (.int (Int32.ofNat (ld + 1 + 2))), .val (.ref b149), .val (.int c0)] [(.int (Int32.ofNat (ld + 1 + 2))), (.ref x)])) rfl hml.symm (Steps.refl _) (argsL := [(.int (Int32.ofNat (ld + 1 + 2)))]) (rest := []) (lenOf pd_11 rfl) rfl (o_mr rfl) (hb hby (od dB8 54 rfl)) (fun _ _ => ⟨rfl, e224, (by decide : 2 + 0 ≤ _), (by decide : 20 + 0 ≤ _)⟩)
                dsimp only [Pt.U, Pt.locs, Pt.cells, Pt.slots] at X225 l225 y225 z225 st225 hQ225
                replace l225 := l225.symm; replace y225 := y225.symm; replace z225 := z225.symm; subst l225 y225 z225
                obtain ⟨rfl, rfl, e225⟩ := hQ225
                have N225 := Fr.app N224 (Fr.nil n0)
                rw [vc225] at st225
                refine own_via st225 ?_
                show own_Fin p e below _ (T225.setTop (mkF m 106 #[.val (.ref x), .val (.int (Int32.ofNat (Q + 1))), .val (.int (Int32.ofNat (ld + 1 + 2))), .val (.ref b149), .val (.int c0)] [(.int c1)]))
                refine o_ist X225 H (od dB8 55 rfl) (L' := #[.val (.ref x), .val (.int (Int32.ofNat (Q + 1))), .val (.int (Int32.ofNat (ld + 1 + 2))), .val (.ref b149), .val (.int c1)]) rfl ?_
                refine o_ild X225 H (od dB8 56 rfl) rfl ?_
                refine o_bi X225 H (od dB8 57 rfl) (v := 92) rfl ?_
                refine o_icY X225 H (od dB8 58 rfl) (feq (own_uf u1).2.1).2 (pc' := 158) (by decide) (by decide) ?_
                refine o_ild X225 H (od dB8 80 rfl) rfl ?_
                refine o_bi X225 H (od dB8 81 rfl) (v := 32) rfl ?_
                refine o_icN X225 H (od dB8 82 rfl) (flt (own_uf u1).2.2.1).1 ?_
                refine o_ild X225 H (od dB8 83 rfl) rfl ?_
                refine o_bi X225 H (od dB8 84 rfl) (v := 126) rfl ?_
                refine o_icY X225 H (od dB8 85 rfl) (flt (own_uf u1).2.2.2).2.2.2 (pc' := 188) (by decide) (by decide) ?_
                refine o_aldN X225 H (od dB8 93 rfl) rfl rfl ?_
                refine o_ild X225 H (od dB8 94 rfl) rfl ?_
                refine o_vs (argsL := [(.int c1)]) (rest := []) X225 H hml hZ hown (ow hw 143 rfl) (ow hw 144 rfl) (ow hw 146 rfl) (ow hw 145 rfl) (backOf (W := 0) (rmPb1 l Z a0 hw [] b149 c1 z tb150 kt150 c0 T219.heap n0 (by exact (Nat.le_trans (Nat.le_trans (Nat.le_trans Z0 E149.1) K150.1) K219.1)) hz (((O.ext E149).keep K150 (allS gn149 all0)).keep K219 (allS gn149 (allS gt150 all0))) SC Eq219 Vq219 Cq219 Dq219 Aq219 gn149 gt150 ne150_b149 (own_u255 u1)) hZ (ow hw 147 rfl) (ow hw 72 rfl) (by decide) (by decide)) (by decide) Eq219 e225 pd_14 (od dB8 95 rfl) rfl rfl rfl rfl rfl (by decide) (by decide) fun _ T226 Lc226 X226 hQ226 => ?_
                obtain ⟨rfl, N226q, K226, Eq226, Vq226, Cq226, Dq226, Aq226⟩ := hQ226
                have N226 := Fr.app N225 N226q
                have y227 := (y220.trans K226 (allS (Or.inr gk149) (allS (Or.inr (Nat.le_trans ((Keep.refl h0 []).ext E149).1 gk150)) all0)))
                have y228 := ((((O.ext E149).keep K150 (allS gn149 all0)).keep K219 (allS gn149 (allS gt150 all0))).keep K226 (allS gn149 (allS gt150 all0)))
                have y229 := ((((Vx.ext E149).keep K150 (ninS ne149_x nin0)).keep K219 (ninS ne149_x (ninS ne150_x nin0))).keep K226 (ninS ne149_x (ninS ne150_x nin0)))
                have y230 := ((((Cx.ext E149).keep K150 (ninS ne149_x nin0)).keep K219 (ninS ne149_x (ninS ne150_x nin0))).keep K226 (ninS ne149_x (ninS ne150_x nin0)))
                have y231 := ((((Kx.ext E149).keep K150 (ninS ne149_tx nin0)).keep K219 (ninS ne149_tx (ninS ne150_tx nin0))).keep K226 (ninS ne149_tx (ninS ne150_tx nin0)))
                show own_Fin p e below _ (T226.setTop (mkF m 194 #[.val (.ref x), .val (.int (Int32.ofNat (Q + 1))), .val (.int (Int32.ofNat (ld + 1 + 2))), .val (.ref b149), .val (.int c1)] [(.ref b149)]))
                refine o_pop X226 H (od dB8 96 rfl) rfl ?_
                refine own_on (fun tq => XS.iinc X226.here hx rfl (hb hby (od dB8 97 rfl)) rfl (l' := #[.val (.ref x), .val (.int (Int32.ofNat (Q + 1))), .val (.int ((Int32.ofNat (ld + 1 + 2)) + (1 : Int32))), .val (.ref b149), .val (.int c1)]) rfl) ?_
                show own_Fin p e below _ (T226.setTop (mkF m 198 #[.val (.ref x), .val (.int (Int32.ofNat (Q + 1))), .val (.int ((Int32.ofNat (ld + 1 + 2)) + (1 : Int32))), .val (.ref b149), .val (.int c1)] []))
                refine o_go X226 H (od dB8 98 rfl) (pc' := 86) (by decide) (by decide) ?_
                rw [own_inc]
                show own_Fin p e below _ (T226.setTop (mkF m 86 #[.val (.ref x), .val (.int (Int32.ofNat (Q + 1))), .val (.int (Int32.ofNat (ld + 1 + 3))), .val (.ref b149), .val (.int c1)] []))
                rcases es1 with _ | ⟨⟨b2, c2⟩, es2⟩
                · have hP : Q = ld + 1 + 3 := by rw [hQ]; simp only [own_enc, List.length_cons, List.length_nil]
                  show own_Fin p e below _ (T226.setTop (mkF m 86 #[.val (.ref x), .val (.int (Int32.ofNat (Q + 1))), .val (.int (Int32.ofNat (ld + 1 + 3))), .val (.ref b149), .val (.int c1)] []))
                  refine o_ildN X226 H (od dB8 44 rfl) rfl ?_
                  refine o_ildN X226 H (od dB8 45 rfl) rfl ?_
                  refine o_icN X226 H (od dB8 46 rfl) (tlt (own_olt (by omega) (by omega))).2.1 ?_
                  refine o_aldN X226 H (od dB8 47 rfl) rfl rfl ?_
                  refine o_ildN X226 H (od dB8 48 rfl) rfl ?_
                  have vc232 : (own_cs ld ((true, c0) :: (false, c1) :: []) tl).getD (ld + 1 + 3) 0 = (34 : Int32) := (own_mid _ _ _ _).trans rfl
                  obtain ⟨cq232, kq232, q232a, q232b, q232c⟩ := isOf hZ rfl ((((Ex.ext E149).keep K150).keep K219).keep K226)
                  obtain ⟨_, _, ⟨T232, L232, k232, n232⟩, -, X232, ⟨Lc232, hQ232, l232, y232, z232⟩, st232⟩ := X226.virtualBack hx (y := (⟨"java/lang/String", "charAt", "(I)C"⟩ : MethodName)) (z := (⟨"java/lang/String", "charAt", "(I)C"⟩ : MethodName)) hown (mvT hZ (ow hw 48 rfl)) (mvT hZ (ow hw 49 rfl)) (notFace_of_selects (args := #[]) (mvT hZ (ow hw 51 rfl))) (mvT hZ (ow hw 51 rfl)) (mvT hZ (ow hw 50 rfl)) (by decide) (StrChars.Road.chN (W := 0) hZ (own_wC hw) (ow hw 6 rfl) ((((Ex.ext E149).keep K150).keep K219).keep K226) y229 y230 y231 cod r16 (SC.ext y228.2) hz (SF.ext y228.2) hfm (i := ld + 1 + 3) (by rw [own_lenC]; omega) (by rw [own_lenC]; simp only [own_enc, List.length_cons, List.length_nil]; omega) rfl (by decide) (by decide)) q232a q232c (g := (mkF m 93 #[.val (.ref x), .val (.int (Int32.ofNat (Q + 1))), .val (.int (Int32.ofNat (ld + 1 + 3))), .val (.ref b149), .val (.int c1)] [(.int (Int32.ofNat (ld + 1 + 3))), (.ref x)])) rfl hml.symm (Steps.refl _) (argsL := [(.int (Int32.ofNat (ld + 1 + 3)))]) (rest := []) (lenOf pd_11 rfl) rfl (o_mr rfl) (hb hby (od dB8 49 rfl)) (fun _ _ => ⟨rfl, rfl, (by decide : 2 + 0 ≤ _), (by decide : 20 + 0 ≤ _)⟩)
                  dsimp only [Pt.U, Pt.locs, Pt.cells, Pt.slots] at X232 l232 y232 z232 st232 hQ232
                  replace l232 := l232.symm; replace y232 := y232.symm; replace z232 := z232.symm; subst l232 y232 z232
                  obtain ⟨rfl, rfl, e232⟩ := hQ232
                  have N232 := Fr.app N226 (Fr.nil n0)
                  rw [vc232] at st232
                  refine own_via st232 ?_
                  show own_Fin p e below _ (T232.setTop (mkF m 96 #[.val (.ref x), .val (.int (Int32.ofNat (Q + 1))), .val (.int (Int32.ofNat (ld + 1 + 3))), .val (.ref b149), .val (.int c1)] [(.int (34 : Int32))]))
                  refine o_bi X232 H (od dB8 50 rfl) (v := 34) rfl ?_
                  refine o_icY X232 H (od dB8 51 rfl) (teq (by decide : (34 : Int32) = (34 : Int32))).1 (pc' := 201) (by decide) (by decide) ?_
                  refine o_ildN X232 H (od dB8 99 rfl) rfl ?_
                  refine o_ildN X232 H (od dB8 100 rfl) rfl ?_
                  refine o_ic X232 H (od dB8 101 rfl) (v := 1) rfl ?_
                  refine o_isub X232 H (od dB8 102 rfl) ?_
                  rw [own_sub1]
                  show own_Fin p e below _ (T232.setTop (mkF m 205 #[.val (.ref x), .val (.int (Int32.ofNat (Q + 1))), .val (.int (Int32.ofNat (ld + 1 + 3))), .val (.ref b149), .val (.int c1)] [(.int (Int32.ofNat Q)), (.int (Int32.ofNat (ld + 1 + 3)))]))
                  refine o_icY X232 H (od dB8 103 rfl) (teq (congrArg Int32.ofNat hP.symm)).1 (pc' := 218) (by decide) (by decide) ?_
                  refine o_aldN X232 H (od dB8 109 rfl) rfl rfl ?_
                  refine o_vs (argsL := []) (rest := []) X232 H hml hZ hown (ow hw 88 rfl) (ow hw 89 rfl) (ow hw 91 rfl) (ow hw 90 rfl) (backOf (W := 0) (rmTs2 l Z a0 hw [] b149 z tb150 kt150 c0 c1 T226.heap n0 (by exact (Nat.le_trans (Nat.le_trans (Nat.le_trans (Nat.le_trans Z0 E149.1) K150.1) K219.1) K226.1)) hz y228 SC Eq226 Vq226 Cq226 Dq226 Aq226 gn149 gt150 ne150_b149) hZ (ow hw 92 rfl) (ow hw 72 rfl) (by decide) (by decide)) (by decide) Eq226 e232 pd_13 (od dB8 110 rfl) rfl rfl rfl rfl rfl (by decide) (by decide) fun _ T233 Lc233 X233 hQ233 => ?_
                  obtain ⟨y233s, x233, kx233, rfl, N233q, K233, gk233, Eq233, Cq233, Vq233, Aq233⟩ := hQ233
                  have N233 := Fr.app N232 N233q
                  have y234 := (Nat.le_trans (Nat.le_trans (Nat.le_trans (Nat.le_trans (Nat.le_trans Z0 E149.1) K150.1) K219.1) K226.1) K233.1)
                  show own_Fin p e below _ (T233.setTop (mkF m 222 #[.val (.ref x), .val (.int (Int32.ofNat (Q + 1))), .val (.int (Int32.ofNat (ld + 1 + 3))), .val (.ref b149), .val (.int c1)] [(.ref y233s)]))
                  exact own_ret (t := (.object "java/lang/String")) X233 hx hlk hret rfl (Or.inr (Or.inr (Or.inr (Or.inr ⟨rfl, rfl, rfl⟩)))) (hb hby (od dB8 111 rfl)) (by show Q8 Z x z fm tx kx ld tl ((true, c0) :: (false, c1) :: []) N2 vs h0 n0 _ T233.heap _; exact ⟨y233s, x233, kx233, rfl, N233, (y227.trans K233 all0), Eq233, Cq233, Vq233, Aq233⟩) (by decide) (by decide)
                · cases b2
                  · have u2 : own_unit (false, c2) := hu _ (List.mem_of_getElem? (i := 2) rfl)
                    have hP2 : Q = ld + 1 + 4 + (own_enc es2).length := by rw [hQ]; simp only [own_enc, List.length_cons]; omega
                    show own_Fin p e below _ (T226.setTop (mkF m 86 #[.val (.ref x), .val (.int (Int32.ofNat (Q + 1))), .val (.int (Int32.ofNat (ld + 1 + 3))), .val (.ref b149), .val (.int c1)] []))
                    refine o_ildN X226 H (od dB8 44 rfl) rfl ?_
                    refine o_ildN X226 H (od dB8 45 rfl) rfl ?_
                    refine o_icN X226 H (od dB8 46 rfl) (tlt (own_olt (by omega) (by omega))).2.1 ?_
                    refine o_aldN X226 H (od dB8 47 rfl) rfl rfl ?_
                    refine o_ildN X226 H (od dB8 48 rfl) rfl ?_
                    have vc235 : (own_cs ld ((true, c0) :: (false, c1) :: (false, c2) :: es2) tl).getD (ld + 1 + 3) 0 = c2 := (own_mid _ _ _ _).trans rfl
                    obtain ⟨cq235, kq235, q235a, q235b, q235c⟩ := isOf hZ rfl ((((Ex.ext E149).keep K150).keep K219).keep K226)
                    obtain ⟨_, _, ⟨T235, L235, k235, n235⟩, -, X235, ⟨Lc235, hQ235, l235, y235, z235⟩, st235⟩ := X226.virtualBack hx (y := (⟨"java/lang/String", "charAt", "(I)C"⟩ : MethodName)) (z := (⟨"java/lang/String", "charAt", "(I)C"⟩ : MethodName)) hown (mvT hZ (ow hw 48 rfl)) (mvT hZ (ow hw 49 rfl)) (notFace_of_selects (args := #[]) (mvT hZ (ow hw 51 rfl))) (mvT hZ (ow hw 51 rfl)) (mvT hZ (ow hw 50 rfl)) (by decide) (StrChars.Road.chN (W := 0) hZ (own_wC hw) (ow hw 6 rfl) ((((Ex.ext E149).keep K150).keep K219).keep K226) y229 y230 y231 cod r16 (SC.ext y228.2) hz (SF.ext y228.2) hfm (i := ld + 1 + 3) (by rw [own_lenC]; omega) (by rw [own_lenC]; simp only [own_enc, List.length_cons, List.length_nil]; omega) rfl (by decide) (by decide)) q235a q235c (g := (mkF m 93 #[.val (.ref x), .val (.int (Int32.ofNat (Q + 1))), .val (.int (Int32.ofNat (ld + 1 + 3))), .val (.ref b149), .val (.int c1)] [(.int (Int32.ofNat (ld + 1 + 3))), (.ref x)])) rfl hml.symm (Steps.refl _) (argsL := [(.int (Int32.ofNat (ld + 1 + 3)))]) (rest := []) (lenOf pd_11 rfl) rfl (o_mr rfl) (hb hby (od dB8 49 rfl)) (fun _ _ => ⟨rfl, rfl, (by decide : 2 + 0 ≤ _), (by decide : 20 + 0 ≤ _)⟩)
                    dsimp only [Pt.U, Pt.locs, Pt.cells, Pt.slots] at X235 l235 y235 z235 st235 hQ235
                    replace l235 := l235.symm; replace y235 := y235.symm; replace z235 := z235.symm; subst l235 y235 z235
                    obtain ⟨rfl, rfl, e235⟩ := hQ235
                    have N235 := Fr.app N226 (Fr.nil n0)
                    rw [vc235] at st235
                    refine own_via st235 ?_
                    show own_Fin p e below _ (T235.setTop (mkF m 96 #[.val (.ref x), .val (.int (Int32.ofNat (Q + 1))), .val (.int (Int32.ofNat (ld + 1 + 3))), .val (.ref b149), .val (.int c1)] [(.int c2)]))
                    refine o_bi X235 H (od dB8 50 rfl) (v := 34) rfl ?_
                    refine o_icN X235 H (od dB8 51 rfl) (feq (own_uf u2).1).1 ?_
                    refine o_aldN X235 H (od dB8 52 rfl) rfl rfl ?_
                    refine o_ildN X235 H (od dB8 53 rfl) rfl ?_
                    have vc236 : (own_cs ld ((true, c0) :: (false, c1) :: (false, c2) :: es2) tl).getD (ld + 1 + 3) 0 = c2 := (own_mid _ _ _ _).trans rfl
                    obtain ⟨cq236, kq236, q236a, q236b, q236c⟩ := isOf hZ e235 ((((Ex.ext E149).keep K150).keep K219).keep K226)
                    obtain ⟨_, _, ⟨T236, L236, k236, n236⟩, -, X236, ⟨Lc236, hQ236, l236, y236, z236⟩, st236⟩ := X235.virtualBack hx (y := (⟨"java/lang/String", "charAt", "(I)C"⟩ : MethodName)) (z := (⟨"java/lang/String", "charAt", "(I)C"⟩ : MethodName)) hown (mvT hZ (ow hw 48 rfl)) (mvT hZ (ow hw 49 rfl)) (notFace_of_selects (args := #[]) (mvT hZ (ow hw 51 rfl))) (mvT hZ (ow hw 51 rfl)) (mvT hZ (ow hw 50 rfl)) (by decide) (StrChars.Road.chN (W := 0) hZ (own_wC hw) (ow hw 6 rfl) ((((Ex.ext E149).keep K150).keep K219).keep K226) y229 y230 y231 cod r16 (SC.ext y228.2) hz (SF.ext y228.2) hfm (i := ld + 1 + 3) (by rw [own_lenC]; omega) (by rw [own_lenC]; simp only [own_enc, List.length_cons, List.length_nil]; omega) rfl (by decide) (by decide)) q236a q236c (g := (mkF m 103 #[.val (.ref x), .val (.int (Int32.ofNat (Q + 1))), .val (.int (Int32.ofNat (ld + 1 + 3))), .val (.ref b149), .val (.int c1)] [(.int (Int32.ofNat (ld + 1 + 3))), (.ref x)])) rfl hml.symm (Steps.refl _) (argsL := [(.int (Int32.ofNat (ld + 1 + 3)))]) (rest := []) (lenOf pd_11 rfl) rfl (o_mr rfl) (hb hby (od dB8 54 rfl)) (fun _ _ => ⟨rfl, e235, (by decide : 2 + 0 ≤ _), (by decide : 20 + 0 ≤ _)⟩)
                    dsimp only [Pt.U, Pt.locs, Pt.cells, Pt.slots] at X236 l236 y236 z236 st236 hQ236
                    replace l236 := l236.symm; replace y236 := y236.symm; replace z236 := z236.symm; subst l236 y236 z236
                    obtain ⟨rfl, rfl, e236⟩ := hQ236
                    have N236 := Fr.app N235 (Fr.nil n0)
                    rw [vc236] at st236
                    refine own_via st236 ?_
                    show own_Fin p e below _ (T236.setTop (mkF m 106 #[.val (.ref x), .val (.int (Int32.ofNat (Q + 1))), .val (.int (Int32.ofNat (ld + 1 + 3))), .val (.ref b149), .val (.int c1)] [(.int c2)]))
                    refine o_ist X236 H (od dB8 55 rfl) (L' := #[.val (.ref x), .val (.int (Int32.ofNat (Q + 1))), .val (.int (Int32.ofNat (ld + 1 + 3))), .val (.ref b149), .val (.int c2)]) rfl ?_
                    refine o_ild X236 H (od dB8 56 rfl) rfl ?_
                    refine o_bi X236 H (od dB8 57 rfl) (v := 92) rfl ?_
                    refine o_icY X236 H (od dB8 58 rfl) (feq (own_uf u2).2.1).2 (pc' := 158) (by decide) (by decide) ?_
                    refine o_ild X236 H (od dB8 80 rfl) rfl ?_
                    refine o_bi X236 H (od dB8 81 rfl) (v := 32) rfl ?_
                    refine o_icN X236 H (od dB8 82 rfl) (flt (own_uf u2).2.2.1).1 ?_
                    refine o_ild X236 H (od dB8 83 rfl) rfl ?_
                    refine o_bi X236 H (od dB8 84 rfl) (v := 126) rfl ?_
                    refine o_icY X236 H (od dB8 85 rfl) (flt (own_uf u2).2.2.2).2.2.2 (pc' := 188) (by decide) (by decide) ?_
                    refine o_aldN X236 H (od dB8 93 rfl) rfl rfl ?_
                    refine o_ild X236 H (od dB8 94 rfl) rfl ?_
                    refine o_vs (argsL := [(.int c2)]) (rest := []) X236 H hml hZ hown (ow hw 143 rfl) (ow hw 144 rfl) (ow hw 146 rfl) (ow hw 145 rfl) (backOf (W := 0) (rmPb2 l Z a0 hw [] b149 c2 z tb150 kt150 c0 c1 T226.heap n0 (by exact (Nat.le_trans (Nat.le_trans (Nat.le_trans (Nat.le_trans Z0 E149.1) K150.1) K219.1) K226.1)) hz y228 SC Eq226 Vq226 Cq226 Dq226 Aq226 gn149 gt150 ne150_b149 (own_u255 u2)) hZ (ow hw 147 rfl) (ow hw 72 rfl) (by decide) (by decide)) (by decide) Eq226 e236 pd_14 (od dB8 95 rfl) rfl rfl rfl rfl rfl (by decide) (by decide) fun _ T237 Lc237 X237 hQ237 => ?_
                    obtain ⟨rfl, N237q, K237, Eq237, Vq237, Cq237, Dq237, Aq237⟩ := hQ237
                    have N237 := Fr.app N236 N237q
                    have y238 := (y227.trans K237 (allS (Or.inr gk149) (allS (Or.inr (Nat.le_trans ((Keep.refl h0 []).ext E149).1 gk150)) all0)))
                    have y239 := (Nat.le_trans (Nat.le_trans (Nat.le_trans (Nat.le_trans (Nat.le_trans Z0 E149.1) K150.1) K219.1) K226.1) K237.1)
                    show own_Fin p e below _ (T237.setTop (mkF m 194 #[.val (.ref x), .val (.int (Int32.ofNat (Q + 1))), .val (.int (Int32.ofNat (ld + 1 + 3))), .val (.ref b149), .val (.int c2)] [(.ref b149)]))
                    refine o_pop X237 H (od dB8 96 rfl) rfl ?_
                    refine own_on (fun tq => XS.iinc X237.here hx rfl (hb hby (od dB8 97 rfl)) rfl (l' := #[.val (.ref x), .val (.int (Int32.ofNat (Q + 1))), .val (.int ((Int32.ofNat (ld + 1 + 3)) + (1 : Int32))), .val (.ref b149), .val (.int c2)]) rfl) ?_
                    show own_Fin p e below _ (T237.setTop (mkF m 198 #[.val (.ref x), .val (.int (Int32.ofNat (Q + 1))), .val (.int ((Int32.ofNat (ld + 1 + 3)) + (1 : Int32))), .val (.ref b149), .val (.int c2)] []))
                    refine o_go X237 H (od dB8 98 rfl) (pc' := 86) (by decide) (by decide) ?_
                    rw [own_inc]
                    show own_Fin p e below _ (T237.setTop (mkF m 86 #[.val (.ref x), .val (.int (Int32.ofNat (Q + 1))), .val (.int (Int32.ofNat (ld + 1 + 4))), .val (.ref b149), .val (.int c2)] []))
                    rcases es2 with _ | ⟨⟨b3, c3⟩, es3⟩
                    · have hP : Q = ld + 1 + 4 := by rw [hQ]; simp only [own_enc, List.length_cons, List.length_nil]
                      show own_Fin p e below _ (T237.setTop (mkF m 86 #[.val (.ref x), .val (.int (Int32.ofNat (Q + 1))), .val (.int (Int32.ofNat (ld + 1 + 4))), .val (.ref b149), .val (.int c2)] []))
                      refine o_ildN X237 H (od dB8 44 rfl) rfl ?_
                      refine o_ildN X237 H (od dB8 45 rfl) rfl ?_
                      refine o_icN X237 H (od dB8 46 rfl) (tlt (own_olt (by omega) (by omega))).2.1 ?_
                      refine o_aldN X237 H (od dB8 47 rfl) rfl rfl ?_
                      refine o_ildN X237 H (od dB8 48 rfl) rfl ?_
                      have vc240 : (own_cs ld ((true, c0) :: (false, c1) :: (false, c2) :: []) tl).getD (ld + 1 + 4) 0 = (34 : Int32) := (own_mid _ _ _ _).trans rfl
                      obtain ⟨cq240, kq240, q240a, q240b, q240c⟩ := isOf hZ rfl (((((Ex.ext E149).keep K150).keep K219).keep K226).keep K237)
                      obtain ⟨_, _, ⟨T240, L240, k240, n240⟩, -, X240, ⟨Lc240, hQ240, l240, y240, z240⟩, st240⟩ := X237.virtualBack hx (y := (⟨"java/lang/String", "charAt", "(I)C"⟩ : MethodName)) (z := (⟨"java/lang/String", "charAt", "(I)C"⟩ : MethodName)) hown (mvT hZ (ow hw 48 rfl)) (mvT hZ (ow hw 49 rfl)) (notFace_of_selects (args := #[]) (mvT hZ (ow hw 51 rfl))) (mvT hZ (ow hw 51 rfl)) (mvT hZ (ow hw 50 rfl)) (by decide) (StrChars.Road.chN (W := 0) hZ (own_wC hw) (ow hw 6 rfl) (((((Ex.ext E149).keep K150).keep K219).keep K226).keep K237) (y229.keep K237 (ninS ne149_x (ninS ne150_x nin0))) (y230.keep K237 (ninS ne149_x (ninS ne150_x nin0))) (y231.keep K237 (ninS ne149_tx (ninS ne150_tx nin0))) cod r16 (SC.ext (y228.keep K237 (allS gn149 (allS gt150 all0))).2) hz (SF.ext (y228.keep K237 (allS gn149 (allS gt150 all0))).2) hfm (i := ld + 1 + 4) (by rw [own_lenC]; omega) (by rw [own_lenC]; simp only [own_enc, List.length_cons, List.length_nil]; omega) rfl (by decide) (by decide)) q240a q240c (g := (mkF m 93 #[.val (.ref x), .val (.int (Int32.ofNat (Q + 1))), .val (.int (Int32.ofNat (ld + 1 + 4))), .val (.ref b149), .val (.int c2)] [(.int (Int32.ofNat (ld + 1 + 4))), (.ref x)])) rfl hml.symm (Steps.refl _) (argsL := [(.int (Int32.ofNat (ld + 1 + 4)))]) (rest := []) (lenOf pd_11 rfl) rfl (o_mr rfl) (hb hby (od dB8 49 rfl)) (fun _ _ => ⟨rfl, rfl, (by decide : 2 + 0 ≤ _), (by decide : 20 + 0 ≤ _)⟩)
                      dsimp only [Pt.U, Pt.locs, Pt.cells, Pt.slots] at X240 l240 y240 z240 st240 hQ240
                      replace l240 := l240.symm; replace y240 := y240.symm; replace z240 := z240.symm; subst l240 y240 z240
                      obtain ⟨rfl, rfl, e240⟩ := hQ240
                      have N240 := Fr.app N237 (Fr.nil n0)
                      rw [vc240] at st240
                      refine own_via st240 ?_
                      show own_Fin p e below _ (T240.setTop (mkF m 96 #[.val (.ref x), .val (.int (Int32.ofNat (Q + 1))), .val (.int (Int32.ofNat (ld + 1 + 4))), .val (.ref b149), .val (.int c2)] [(.int (34 : Int32))]))
                      refine o_bi X240 H (od dB8 50 rfl) (v := 34) rfl ?_
                      refine o_icY X240 H (od dB8 51 rfl) (teq (by decide : (34 : Int32) = (34 : Int32))).1 (pc' := 201) (by decide) (by decide) ?_
                      refine o_ildN X240 H (od dB8 99 rfl) rfl ?_
                      refine o_ildN X240 H (od dB8 100 rfl) rfl ?_
                      refine o_ic X240 H (od dB8 101 rfl) (v := 1) rfl ?_
                      refine o_isub X240 H (od dB8 102 rfl) ?_
                      rw [own_sub1]
                      show own_Fin p e below _ (T240.setTop (mkF m 205 #[.val (.ref x), .val (.int (Int32.ofNat (Q + 1))), .val (.int (Int32.ofNat (ld + 1 + 4))), .val (.ref b149), .val (.int c2)] [(.int (Int32.ofNat Q)), (.int (Int32.ofNat (ld + 1 + 4)))]))
                      refine o_icY X240 H (od dB8 103 rfl) (teq (congrArg Int32.ofNat hP.symm)).1 (pc' := 218) (by decide) (by decide) ?_
                      refine o_aldN X240 H (od dB8 109 rfl) rfl rfl ?_
                      refine o_vs (argsL := []) (rest := []) X240 H hml hZ hown (ow hw 88 rfl) (ow hw 89 rfl) (ow hw 91 rfl) (ow hw 90 rfl) (backOf (W := 0) (rmTs3 l Z a0 hw [] b149 z tb150 kt150 c0 c1 c2 T237.heap n0 (by exact y239) hz (y228.keep K237 (allS gn149 (allS gt150 all0))) SC Eq237 Vq237 Cq237 Dq237 Aq237 gn149 gt150 ne150_b149) hZ (ow hw 92 rfl) (ow hw 72 rfl) (by decide) (by decide)) (by decide) Eq237 e240 pd_13 (od dB8 110 rfl) rfl rfl rfl rfl rfl (by decide) (by decide) fun _ T241 Lc241 X241 hQ241 => ?_
                      obtain ⟨y241s, x241, kx241, rfl, N241q, K241, gk241, Eq241, Cq241, Vq241, Aq241⟩ := hQ241
                      have N241 := Fr.app N240 N241q
                      show own_Fin p e below _ (T241.setTop (mkF m 222 #[.val (.ref x), .val (.int (Int32.ofNat (Q + 1))), .val (.int (Int32.ofNat (ld + 1 + 4))), .val (.ref b149), .val (.int c2)] [(.ref y241s)]))
                      exact own_ret (t := (.object "java/lang/String")) X241 hx hlk hret rfl (Or.inr (Or.inr (Or.inr (Or.inr ⟨rfl, rfl, rfl⟩)))) (hb hby (od dB8 111 rfl)) (by show Q8 Z x z fm tx kx ld tl ((true, c0) :: (false, c1) :: (false, c2) :: []) N2 vs h0 n0 _ T241.heap _; exact ⟨y241s, x241, kx241, rfl, N241, (y238.trans K241 all0), Eq241, Cq241, Vq241, Aq241⟩) (by decide) (by decide)
                    · exact absurd hes (by simp)
                  · have u2 : own_unit (true, c2) := hu _ (List.mem_of_getElem? (i := 2) rfl)
                    have hP2 : Q = ld + 1 + 5 + (own_enc es2).length := by rw [hQ]; simp only [own_enc, List.length_cons]; omega
                    show own_Fin p e below _ (T226.setTop (mkF m 86 #[.val (.ref x), .val (.int (Int32.ofNat (Q + 1))), .val (.int (Int32.ofNat (ld + 1 + 3))), .val (.ref b149), .val (.int c1)] []))
                    refine o_ildN X226 H (od dB8 44 rfl) rfl ?_
                    refine o_ildN X226 H (od dB8 45 rfl) rfl ?_
                    refine o_icN X226 H (od dB8 46 rfl) (tlt (own_olt (by omega) (by omega))).2.1 ?_
                    refine o_aldN X226 H (od dB8 47 rfl) rfl rfl ?_
                    refine o_ildN X226 H (od dB8 48 rfl) rfl ?_
                    have vc242 : (own_cs ld ((true, c0) :: (false, c1) :: (true, c2) :: es2) tl).getD (ld + 1 + 3) 0 = (92 : Int32) := (own_mid _ _ _ _).trans rfl
                    obtain ⟨cq242, kq242, q242a, q242b, q242c⟩ := isOf hZ rfl ((((Ex.ext E149).keep K150).keep K219).keep K226)
                    obtain ⟨_, _, ⟨T242, L242, k242, n242⟩, -, X242, ⟨Lc242, hQ242, l242, y242, z242⟩, st242⟩ := X226.virtualBack hx (y := (⟨"java/lang/String", "charAt", "(I)C"⟩ : MethodName)) (z := (⟨"java/lang/String", "charAt", "(I)C"⟩ : MethodName)) hown (mvT hZ (ow hw 48 rfl)) (mvT hZ (ow hw 49 rfl)) (notFace_of_selects (args := #[]) (mvT hZ (ow hw 51 rfl))) (mvT hZ (ow hw 51 rfl)) (mvT hZ (ow hw 50 rfl)) (by decide) (StrChars.Road.chN (W := 0) hZ (own_wC hw) (ow hw 6 rfl) ((((Ex.ext E149).keep K150).keep K219).keep K226) y229 y230 y231 cod r16 (SC.ext y228.2) hz (SF.ext y228.2) hfm (i := ld + 1 + 3) (by rw [own_lenC]; omega) (by rw [own_lenC]; simp only [own_enc, List.length_cons, List.length_nil]; omega) rfl (by decide) (by decide)) q242a q242c (g := (mkF m 93 #[.val (.ref x), .val (.int (Int32.ofNat (Q + 1))), .val (.int (Int32.ofNat (ld + 1 + 3))), .val (.ref b149), .val (.int c1)] [(.int (Int32.ofNat (ld + 1 + 3))), (.ref x)])) rfl hml.symm (Steps.refl _) (argsL := [(.int (Int32.ofNat (ld + 1 + 3)))]) (rest := []) (lenOf pd_11 rfl) rfl (o_mr rfl) (hb hby (od dB8 49 rfl)) (fun _ _ => ⟨rfl, rfl, (by decide : 2 + 0 ≤ _), (by decide : 20 + 0 ≤ _)⟩)
                    dsimp only [Pt.U, Pt.locs, Pt.cells, Pt.slots] at X242 l242 y242 z242 st242 hQ242
                    replace l242 := l242.symm; replace y242 := y242.symm; replace z242 := z242.symm; subst l242 y242 z242
                    obtain ⟨rfl, rfl, e242⟩ := hQ242
                    have N242 := Fr.app N226 (Fr.nil n0)
                    rw [vc242] at st242
                    refine own_via st242 ?_
                    show own_Fin p e below _ (T242.setTop (mkF m 96 #[.val (.ref x), .val (.int (Int32.ofNat (Q + 1))), .val (.int (Int32.ofNat (ld + 1 + 3))), .val (.ref b149), .val (.int c1)] [(.int (92 : Int32))]))
                    refine o_bi X242 H (od dB8 50 rfl) (v := 34) rfl ?_
                    refine o_icN X242 H (od dB8 51 rfl) (feq (by decide : ¬ ((92 : Int32) = (34 : Int32)))).1 ?_
                    refine o_aldN X242 H (od dB8 52 rfl) rfl rfl ?_
                    refine o_ildN X242 H (od dB8 53 rfl) rfl ?_
                    have vc243 : (own_cs ld ((true, c0) :: (false, c1) :: (true, c2) :: es2) tl).getD (ld + 1 + 3) 0 = (92 : Int32) := (own_mid _ _ _ _).trans rfl
                    obtain ⟨cq243, kq243, q243a, q243b, q243c⟩ := isOf hZ e242 ((((Ex.ext E149).keep K150).keep K219).keep K226)
                    obtain ⟨_, _, ⟨T243, L243, k243, n243⟩, -, X243, ⟨Lc243, hQ243, l243, y243, z243⟩, st243⟩ := X242.virtualBack hx (y := (⟨"java/lang/String", "charAt", "(I)C"⟩ : MethodName)) (z := (⟨"java/lang/String", "charAt", "(I)C"⟩ : MethodName)) hown (mvT hZ (ow hw 48 rfl)) (mvT hZ (ow hw 49 rfl)) (notFace_of_selects (args := #[]) (mvT hZ (ow hw 51 rfl))) (mvT hZ (ow hw 51 rfl)) (mvT hZ (ow hw 50 rfl)) (by decide) (StrChars.Road.chN (W := 0) hZ (own_wC hw) (ow hw 6 rfl) ((((Ex.ext E149).keep K150).keep K219).keep K226) y229 y230 y231 cod r16 (SC.ext y228.2) hz (SF.ext y228.2) hfm (i := ld + 1 + 3) (by rw [own_lenC]; omega) (by rw [own_lenC]; simp only [own_enc, List.length_cons, List.length_nil]; omega) rfl (by decide) (by decide)) q243a q243c (g := (mkF m 103 #[.val (.ref x), .val (.int (Int32.ofNat (Q + 1))), .val (.int (Int32.ofNat (ld + 1 + 3))), .val (.ref b149), .val (.int c1)] [(.int (Int32.ofNat (ld + 1 + 3))), (.ref x)])) rfl hml.symm (Steps.refl _) (argsL := [(.int (Int32.ofNat (ld + 1 + 3)))]) (rest := []) (lenOf pd_11 rfl) rfl (o_mr rfl) (hb hby (od dB8 54 rfl)) (fun _ _ => ⟨rfl, e242, (by decide : 2 + 0 ≤ _), (by decide : 20 + 0 ≤ _)⟩)
                    dsimp only [Pt.U, Pt.locs, Pt.cells, Pt.slots] at X243 l243 y243 z243 st243 hQ243
                    replace l243 := l243.symm; replace y243 := y243.symm; replace z243 := z243.symm; subst l243 y243 z243
                    obtain ⟨rfl, rfl, e243⟩ := hQ243
                    have N243 := Fr.app N242 (Fr.nil n0)
                    rw [vc243] at st243
                    refine own_via st243 ?_
                    show own_Fin p e below _ (T243.setTop (mkF m 106 #[.val (.ref x), .val (.int (Int32.ofNat (Q + 1))), .val (.int (Int32.ofNat (ld + 1 + 3))), .val (.ref b149), .val (.int c1)] [(.int (92 : Int32))]))
                    refine o_ist X243 H (od dB8 55 rfl) (L' := #[.val (.ref x), .val (.int (Int32.ofNat (Q + 1))), .val (.int (Int32.ofNat (ld + 1 + 3))), .val (.ref b149), .val (.int (92 : Int32))]) rfl ?_
                    refine o_ild X243 H (od dB8 56 rfl) rfl ?_
                    refine o_bi X243 H (od dB8 57 rfl) (v := 92) rfl ?_
                    refine o_icN X243 H (od dB8 58 rfl) (teq (by decide : (92 : Int32) = (92 : Int32))).2 ?_
                    refine own_on (fun tq => XS.iinc X243.here hx rfl (hb hby (od dB8 59 rfl)) rfl (l' := #[.val (.ref x), .val (.int (Int32.ofNat (Q + 1))), .val (.int ((Int32.ofNat (ld + 1 + 3)) + (1 : Int32))), .val (.ref b149), .val (.int (92 : Int32))]) rfl) ?_
                    show own_Fin p e below _ (T243.setTop (mkF m 118 #[.val (.ref x), .val (.int (Int32.ofNat (Q + 1))), .val (.int ((Int32.ofNat (ld + 1 + 3)) + (1 : Int32))), .val (.ref b149), .val (.int (92 : Int32))] []))
                    rw [own_inc]
                    show own_Fin p e below _ (T243.setTop (mkF m 118 #[.val (.ref x), .val (.int (Int32.ofNat (Q + 1))), .val (.int (Int32.ofNat (ld + 1 + 4))), .val (.ref b149), .val (.int (92 : Int32))] []))
                    refine o_ildN X243 H (od dB8 60 rfl) rfl ?_
                    refine o_ildN X243 H (od dB8 61 rfl) rfl ?_
                    refine o_icN X243 H (od dB8 62 rfl) (tlt (own_olt (by omega) (by omega))).2.1 ?_
                    refine o_aldN X243 H (od dB8 63 rfl) rfl rfl ?_
                    refine o_ildN X243 H (od dB8 64 rfl) rfl ?_
                    have vc244 : (own_cs ld ((true, c0) :: (false, c1) :: (true, c2) :: es2) tl).getD (ld + 1 + 4) 0 = c2 := (own_mid _ _ _ _).trans rfl
                    obtain ⟨cq244, kq244, q244a, q244b, q244c⟩ := isOf hZ e243 ((((Ex.ext E149).keep K150).keep K219).keep K226)
                    obtain ⟨_, _, ⟨T244, L244, k244, n244⟩, -, X244, ⟨Lc244, hQ244, l244, y244, z244⟩, st244⟩ := X243.virtualBack hx (y := (⟨"java/lang/String", "charAt", "(I)C"⟩ : MethodName)) (z := (⟨"java/lang/String", "charAt", "(I)C"⟩ : MethodName)) hown (mvT hZ (ow hw 48 rfl)) (mvT hZ (ow hw 49 rfl)) (notFace_of_selects (args := #[]) (mvT hZ (ow hw 51 rfl))) (mvT hZ (ow hw 51 rfl)) (mvT hZ (ow hw 50 rfl)) (by decide) (StrChars.Road.chN (W := 0) hZ (own_wC hw) (ow hw 6 rfl) ((((Ex.ext E149).keep K150).keep K219).keep K226) y229 y230 y231 cod r16 (SC.ext y228.2) hz (SF.ext y228.2) hfm (i := ld + 1 + 4) (by rw [own_lenC]; omega) (by rw [own_lenC]; simp only [own_enc, List.length_cons, List.length_nil]; omega) rfl (by decide) (by decide)) q244a q244c (g := (mkF m 125 #[.val (.ref x), .val (.int (Int32.ofNat (Q + 1))), .val (.int (Int32.ofNat (ld + 1 + 4))), .val (.ref b149), .val (.int (92 : Int32))] [(.int (Int32.ofNat (ld + 1 + 4))), (.ref x)])) rfl hml.symm (Steps.refl _) (argsL := [(.int (Int32.ofNat (ld + 1 + 4)))]) (rest := []) (lenOf pd_11 rfl) rfl (o_mr rfl) (hb hby (od dB8 65 rfl)) (fun _ _ => ⟨rfl, e243, (by decide : 2 + 0 ≤ _), (by decide : 20 + 0 ≤ _)⟩)
                    dsimp only [Pt.U, Pt.locs, Pt.cells, Pt.slots] at X244 l244 y244 z244 st244 hQ244
                    replace l244 := l244.symm; replace y244 := y244.symm; replace z244 := z244.symm; subst l244 y244 z244
                    obtain ⟨rfl, rfl, e244⟩ := hQ244
                    have N244 := Fr.app N243 (Fr.nil n0)
                    rw [vc244] at st244
                    refine own_via st244 ?_
                    show own_Fin p e below _ (T244.setTop (mkF m 128 #[.val (.ref x), .val (.int (Int32.ofNat (Q + 1))), .val (.int (Int32.ofNat (ld + 1 + 4))), .val (.ref b149), .val (.int (92 : Int32))] [(.int c2)]))
                    refine o_go X244 H (od dB8 66 rfl) (pc' := 132) (by decide) (by decide) ?_
                    refine o_ist X244 H (od dB8 68 rfl) (L' := #[.val (.ref x), .val (.int (Int32.ofNat (Q + 1))), .val (.int (Int32.ofNat (ld + 1 + 4))), .val (.ref b149), .val (.int c2)]) rfl ?_
                    refine own_merge (B := (T244.setTop (mkF m 188 #[.val (.ref x), .val (.int (Int32.ofNat (Q + 1))), .val (.int (Int32.ofNat (ld + 1 + 4))), .val (.ref b149), .val (.int c2)] []))) ?_ (fun HM => ?_)
                    · show own_Fin p e below _ (T244.setTop (mkF m 188 #[.val (.ref x), .val (.int (Int32.ofNat (Q + 1))), .val (.int (Int32.ofNat (ld + 1 + 4))), .val (.ref b149), .val (.int c2)] []))
                      refine o_aldN X244 H (od dB8 93 rfl) rfl rfl ?_
                      refine o_ild X244 H (od dB8 94 rfl) rfl ?_
                      refine o_vs (argsL := [(.int c2)]) (rest := []) X244 H hml hZ hown (ow hw 143 rfl) (ow hw 144 rfl) (ow hw 146 rfl) (ow hw 145 rfl) (backOf (W := 0) (rmPb2 l Z a0 hw [] b149 c2 z tb150 kt150 c0 c1 T226.heap n0 (by exact (Nat.le_trans (Nat.le_trans (Nat.le_trans (Nat.le_trans Z0 E149.1) K150.1) K219.1) K226.1)) hz y228 SC Eq226 Vq226 Cq226 Dq226 Aq226 gn149 gt150 ne150_b149 (own_u255 u2)) hZ (ow hw 147 rfl) (ow hw 72 rfl) (by decide) (by decide)) (by decide) Eq226 e244 pd_14 (od dB8 95 rfl) rfl rfl rfl rfl rfl (by decide) (by decide) fun _ T245 Lc245 X245 hQ245 => ?_
                      obtain ⟨rfl, N245q, K245, Eq245, Vq245, Cq245, Dq245, Aq245⟩ := hQ245
                      have N245 := Fr.app N244 N245q
                      have y246 := (y227.trans K245 (allS (Or.inr gk149) (allS (Or.inr (Nat.le_trans ((Keep.refl h0 []).ext E149).1 gk150)) all0)))
                      have y247 := (Nat.le_trans (Nat.le_trans (Nat.le_trans (Nat.le_trans (Nat.le_trans Z0 E149.1) K150.1) K219.1) K226.1) K245.1)
                      show own_Fin p e below _ (T245.setTop (mkF m 194 #[.val (.ref x), .val (.int (Int32.ofNat (Q + 1))), .val (.int (Int32.ofNat (ld + 1 + 4))), .val (.ref b149), .val (.int c2)] [(.ref b149)]))
                      refine o_pop X245 H (od dB8 96 rfl) rfl ?_
                      refine own_on (fun tq => XS.iinc X245.here hx rfl (hb hby (od dB8 97 rfl)) rfl (l' := #[.val (.ref x), .val (.int (Int32.ofNat (Q + 1))), .val (.int ((Int32.ofNat (ld + 1 + 4)) + (1 : Int32))), .val (.ref b149), .val (.int c2)]) rfl) ?_
                      show own_Fin p e below _ (T245.setTop (mkF m 198 #[.val (.ref x), .val (.int (Int32.ofNat (Q + 1))), .val (.int ((Int32.ofNat (ld + 1 + 4)) + (1 : Int32))), .val (.ref b149), .val (.int c2)] []))
                      refine o_go X245 H (od dB8 98 rfl) (pc' := 86) (by decide) (by decide) ?_
                      rw [own_inc]
                      show own_Fin p e below _ (T245.setTop (mkF m 86 #[.val (.ref x), .val (.int (Int32.ofNat (Q + 1))), .val (.int (Int32.ofNat (ld + 1 + 5))), .val (.ref b149), .val (.int c2)] []))
                      rcases es2 with _ | ⟨⟨b3, c3⟩, es3⟩
                      · have hP : Q = ld + 1 + 5 := by rw [hQ]; simp only [own_enc, List.length_cons, List.length_nil]
                        show own_Fin p e below _ (T245.setTop (mkF m 86 #[.val (.ref x), .val (.int (Int32.ofNat (Q + 1))), .val (.int (Int32.ofNat (ld + 1 + 5))), .val (.ref b149), .val (.int c2)] []))
                        refine o_ildN X245 H (od dB8 44 rfl) rfl ?_
                        refine o_ildN X245 H (od dB8 45 rfl) rfl ?_
                        refine o_icN X245 H (od dB8 46 rfl) (tlt (own_olt (by omega) (by omega))).2.1 ?_
                        refine o_aldN X245 H (od dB8 47 rfl) rfl rfl ?_
                        refine o_ildN X245 H (od dB8 48 rfl) rfl ?_
                        have vc248 : (own_cs ld ((true, c0) :: (false, c1) :: (true, c2) :: []) tl).getD (ld + 1 + 5) 0 = (34 : Int32) := (own_mid _ _ _ _).trans rfl
                        obtain ⟨cq248, kq248, q248a, q248b, q248c⟩ := isOf hZ rfl (((((Ex.ext E149).keep K150).keep K219).keep K226).keep K245)
                        obtain ⟨_, _, ⟨T248, L248, k248, n248⟩, -, X248, ⟨Lc248, hQ248, l248, y248, z248⟩, st248⟩ := X245.virtualBack hx (y := (⟨"java/lang/String", "charAt", "(I)C"⟩ : MethodName)) (z := (⟨"java/lang/String", "charAt", "(I)C"⟩ : MethodName)) hown (mvT hZ (ow hw 48 rfl)) (mvT hZ (ow hw 49 rfl)) (notFace_of_selects (args := #[]) (mvT hZ (ow hw 51 rfl))) (mvT hZ (ow hw 51 rfl)) (mvT hZ (ow hw 50 rfl)) (by decide) (StrChars.Road.chN (W := 0) hZ (own_wC hw) (ow hw 6 rfl) (((((Ex.ext E149).keep K150).keep K219).keep K226).keep K245) (y229.keep K245 (ninS ne149_x (ninS ne150_x nin0))) (y230.keep K245 (ninS ne149_x (ninS ne150_x nin0))) (y231.keep K245 (ninS ne149_tx (ninS ne150_tx nin0))) cod r16 (SC.ext (y228.keep K245 (allS gn149 (allS gt150 all0))).2) hz (SF.ext (y228.keep K245 (allS gn149 (allS gt150 all0))).2) hfm (i := ld + 1 + 5) (by rw [own_lenC]; omega) (by rw [own_lenC]; simp only [own_enc, List.length_cons, List.length_nil]; omega) rfl (by decide) (by decide)) q248a q248c (g := (mkF m 93 #[.val (.ref x), .val (.int (Int32.ofNat (Q + 1))), .val (.int (Int32.ofNat (ld + 1 + 5))), .val (.ref b149), .val (.int c2)] [(.int (Int32.ofNat (ld + 1 + 5))), (.ref x)])) rfl hml.symm (Steps.refl _) (argsL := [(.int (Int32.ofNat (ld + 1 + 5)))]) (rest := []) (lenOf pd_11 rfl) rfl (o_mr rfl) (hb hby (od dB8 49 rfl)) (fun _ _ => ⟨rfl, rfl, (by decide : 2 + 0 ≤ _), (by decide : 20 + 0 ≤ _)⟩)
                        dsimp only [Pt.U, Pt.locs, Pt.cells, Pt.slots] at X248 l248 y248 z248 st248 hQ248
                        replace l248 := l248.symm; replace y248 := y248.symm; replace z248 := z248.symm; subst l248 y248 z248
                        obtain ⟨rfl, rfl, e248⟩ := hQ248
                        have N248 := Fr.app N245 (Fr.nil n0)
                        rw [vc248] at st248
                        refine own_via st248 ?_
                        show own_Fin p e below _ (T248.setTop (mkF m 96 #[.val (.ref x), .val (.int (Int32.ofNat (Q + 1))), .val (.int (Int32.ofNat (ld + 1 + 5))), .val (.ref b149), .val (.int c2)] [(.int (34 : Int32))]))
                        refine o_bi X248 H (od dB8 50 rfl) (v := 34) rfl ?_
                        refine o_icY X248 H (od dB8 51 rfl) (teq (by decide : (34 : Int32) = (34 : Int32))).1 (pc' := 201) (by decide) (by decide) ?_
                        refine o_ildN X248 H (od dB8 99 rfl) rfl ?_
                        refine o_ildN X248 H (od dB8 100 rfl) rfl ?_
                        refine o_ic X248 H (od dB8 101 rfl) (v := 1) rfl ?_
                        refine o_isub X248 H (od dB8 102 rfl) ?_
                        rw [own_sub1]
                        show own_Fin p e below _ (T248.setTop (mkF m 205 #[.val (.ref x), .val (.int (Int32.ofNat (Q + 1))), .val (.int (Int32.ofNat (ld + 1 + 5))), .val (.ref b149), .val (.int c2)] [(.int (Int32.ofNat Q)), (.int (Int32.ofNat (ld + 1 + 5)))]))
                        refine o_icY X248 H (od dB8 103 rfl) (teq (congrArg Int32.ofNat hP.symm)).1 (pc' := 218) (by decide) (by decide) ?_
                        refine o_aldN X248 H (od dB8 109 rfl) rfl rfl ?_
                        refine o_vs (argsL := []) (rest := []) X248 H hml hZ hown (ow hw 88 rfl) (ow hw 89 rfl) (ow hw 91 rfl) (ow hw 90 rfl) (backOf (W := 0) (rmTs3 l Z a0 hw [] b149 z tb150 kt150 c0 c1 c2 T245.heap n0 (by exact y247) hz (y228.keep K245 (allS gn149 (allS gt150 all0))) SC Eq245 Vq245 Cq245 Dq245 Aq245 gn149 gt150 ne150_b149) hZ (ow hw 92 rfl) (ow hw 72 rfl) (by decide) (by decide)) (by decide) Eq245 e248 pd_13 (od dB8 110 rfl) rfl rfl rfl rfl rfl (by decide) (by decide) fun _ T249 Lc249 X249 hQ249 => ?_
                        obtain ⟨y249s, x249, kx249, rfl, N249q, K249, gk249, Eq249, Cq249, Vq249, Aq249⟩ := hQ249
                        have N249 := Fr.app N248 N249q
                        show own_Fin p e below _ (T249.setTop (mkF m 222 #[.val (.ref x), .val (.int (Int32.ofNat (Q + 1))), .val (.int (Int32.ofNat (ld + 1 + 5))), .val (.ref b149), .val (.int c2)] [(.ref y249s)]))
                        exact own_ret (t := (.object "java/lang/String")) X249 hx hlk hret rfl (Or.inr (Or.inr (Or.inr (Or.inr ⟨rfl, rfl, rfl⟩)))) (hb hby (od dB8 111 rfl)) (by show Q8 Z x z fm tx kx ld tl ((true, c0) :: (false, c1) :: (true, c2) :: []) N2 vs h0 n0 _ T249.heap _; exact ⟨y249s, x249, kx249, rfl, N249, (y246.trans K249 all0), Eq249, Cq249, Vq249, Aq249⟩) (by decide) (by decide)
                      · exact absurd hes (by simp)
                    · show own_Fin p e below _ (T244.setTop (mkF m 134 #[.val (.ref x), .val (.int (Int32.ofNat (Q + 1))), .val (.int (Int32.ofNat (ld + 1 + 4))), .val (.ref b149), .val (.int c2)] []))
                      refine o_ild X244 H (od dB8 69 rfl) rfl ?_
                      refine o_bi X244 H (od dB8 70 rfl) (v := 34) rfl ?_
                      by_cases hc250 : c2 = (34 : Int32)
                      · refine o_icY X244 H (od dB8 71 rfl) (teq hc250).1 (pc' := 188) (by decide) (by decide) ?_
                        exact HM
                      · refine o_icN X244 H (od dB8 71 rfl) (feq hc250).1 ?_
                        refine o_ild X244 H (od dB8 72 rfl) rfl ?_
                        refine o_bi X244 H (od dB8 73 rfl) (v := 92) rfl ?_
                        refine o_icY X244 H (od dB8 74 rfl) (teq (own_or2 u2 hc250)).1 (pc' := 188) (by decide) (by decide) ?_
                        exact HM
              · have u1 : own_unit (true, c1) := hu _ (List.mem_of_getElem? (i := 1) rfl)
                have hP1 : Q = ld + 1 + 4 + (own_enc es1).length := by rw [hQ]; simp only [own_enc, List.length_cons]; omega
                show own_Fin p e below _ (T219.setTop (mkF m 86 #[.val (.ref x), .val (.int (Int32.ofNat (Q + 1))), .val (.int (Int32.ofNat (ld + 1 + 2))), .val (.ref b149), .val (.int c0)] []))
                refine o_ildN X219 H (od dB8 44 rfl) rfl ?_
                refine o_ildN X219 H (od dB8 45 rfl) rfl ?_
                refine o_icN X219 H (od dB8 46 rfl) (tlt (own_olt (by omega) (by omega))).2.1 ?_
                refine o_aldN X219 H (od dB8 47 rfl) rfl rfl ?_
                refine o_ildN X219 H (od dB8 48 rfl) rfl ?_
                have vc251 : (own_cs ld ((true, c0) :: (true, c1) :: es1) tl).getD (ld + 1 + 2) 0 = (92 : Int32) := (own_mid _ _ _ _).trans rfl
                obtain ⟨cq251, kq251, q251a, q251b, q251c⟩ := isOf hZ rfl (((Ex.ext E149).keep K150).keep K219)
                obtain ⟨_, _, ⟨T251, L251, k251, n251⟩, -, X251, ⟨Lc251, hQ251, l251, y251, z251⟩, st251⟩ := X219.virtualBack hx (y := (⟨"java/lang/String", "charAt", "(I)C"⟩ : MethodName)) (z := (⟨"java/lang/String", "charAt", "(I)C"⟩ : MethodName)) hown (mvT hZ (ow hw 48 rfl)) (mvT hZ (ow hw 49 rfl)) (notFace_of_selects (args := #[]) (mvT hZ (ow hw 51 rfl))) (mvT hZ (ow hw 51 rfl)) (mvT hZ (ow hw 50 rfl)) (by decide) (StrChars.Road.chN (W := 0) hZ (own_wC hw) (ow hw 6 rfl) (((Ex.ext E149).keep K150).keep K219) (((Vx.ext E149).keep K150 (ninS ne149_x nin0)).keep K219 (ninS ne149_x (ninS ne150_x nin0))) (((Cx.ext E149).keep K150 (ninS ne149_x nin0)).keep K219 (ninS ne149_x (ninS ne150_x nin0))) (((Kx.ext E149).keep K150 (ninS ne149_tx nin0)).keep K219 (ninS ne149_tx (ninS ne150_tx nin0))) cod r16 (SC.ext (((O.ext E149).keep K150 (allS gn149 all0)).keep K219 (allS gn149 (allS gt150 all0))).2) hz (SF.ext (((O.ext E149).keep K150 (allS gn149 all0)).keep K219 (allS gn149 (allS gt150 all0))).2) hfm (i := ld + 1 + 2) (by rw [own_lenC]; omega) (by rw [own_lenC]; simp only [own_enc, List.length_cons, List.length_nil]; omega) rfl (by decide) (by decide)) q251a q251c (g := (mkF m 93 #[.val (.ref x), .val (.int (Int32.ofNat (Q + 1))), .val (.int (Int32.ofNat (ld + 1 + 2))), .val (.ref b149), .val (.int c0)] [(.int (Int32.ofNat (ld + 1 + 2))), (.ref x)])) rfl hml.symm (Steps.refl _) (argsL := [(.int (Int32.ofNat (ld + 1 + 2)))]) (rest := []) (lenOf pd_11 rfl) rfl (o_mr rfl) (hb hby (od dB8 49 rfl)) (fun _ _ => ⟨rfl, rfl, (by decide : 2 + 0 ≤ _), (by decide : 20 + 0 ≤ _)⟩)
                dsimp only [Pt.U, Pt.locs, Pt.cells, Pt.slots] at X251 l251 y251 z251 st251 hQ251
                replace l251 := l251.symm; replace y251 := y251.symm; replace z251 := z251.symm; subst l251 y251 z251
                obtain ⟨rfl, rfl, e251⟩ := hQ251
                have N251 := Fr.app N219 (Fr.nil n0)
                rw [vc251] at st251
                refine own_via st251 ?_
                show own_Fin p e below _ (T251.setTop (mkF m 96 #[.val (.ref x), .val (.int (Int32.ofNat (Q + 1))), .val (.int (Int32.ofNat (ld + 1 + 2))), .val (.ref b149), .val (.int c0)] [(.int (92 : Int32))]))
                refine o_bi X251 H (od dB8 50 rfl) (v := 34) rfl ?_
                refine o_icN X251 H (od dB8 51 rfl) (feq (by decide : ¬ ((92 : Int32) = (34 : Int32)))).1 ?_
                refine o_aldN X251 H (od dB8 52 rfl) rfl rfl ?_
                refine o_ildN X251 H (od dB8 53 rfl) rfl ?_
                have vc252 : (own_cs ld ((true, c0) :: (true, c1) :: es1) tl).getD (ld + 1 + 2) 0 = (92 : Int32) := (own_mid _ _ _ _).trans rfl
                obtain ⟨cq252, kq252, q252a, q252b, q252c⟩ := isOf hZ e251 (((Ex.ext E149).keep K150).keep K219)
                obtain ⟨_, _, ⟨T252, L252, k252, n252⟩, -, X252, ⟨Lc252, hQ252, l252, y252, z252⟩, st252⟩ := X251.virtualBack hx (y := (⟨"java/lang/String", "charAt", "(I)C"⟩ : MethodName)) (z := (⟨"java/lang/String", "charAt", "(I)C"⟩ : MethodName)) hown (mvT hZ (ow hw 48 rfl)) (mvT hZ (ow hw 49 rfl)) (notFace_of_selects (args := #[]) (mvT hZ (ow hw 51 rfl))) (mvT hZ (ow hw 51 rfl)) (mvT hZ (ow hw 50 rfl)) (by decide) (StrChars.Road.chN (W := 0) hZ (own_wC hw) (ow hw 6 rfl) (((Ex.ext E149).keep K150).keep K219) (((Vx.ext E149).keep K150 (ninS ne149_x nin0)).keep K219 (ninS ne149_x (ninS ne150_x nin0))) (((Cx.ext E149).keep K150 (ninS ne149_x nin0)).keep K219 (ninS ne149_x (ninS ne150_x nin0))) (((Kx.ext E149).keep K150 (ninS ne149_tx nin0)).keep K219 (ninS ne149_tx (ninS ne150_tx nin0))) cod r16 (SC.ext (((O.ext E149).keep K150 (allS gn149 all0)).keep K219 (allS gn149 (allS gt150 all0))).2) hz (SF.ext (((O.ext E149).keep K150 (allS gn149 all0)).keep K219 (allS gn149 (allS gt150 all0))).2) hfm (i := ld + 1 + 2) (by rw [own_lenC]; omega) (by rw [own_lenC]; simp only [own_enc, List.length_cons, List.length_nil]; omega) rfl (by decide) (by decide)) q252a q252c (g := (mkF m 103 #[.val (.ref x), .val (.int (Int32.ofNat (Q + 1))), .val (.int (Int32.ofNat (ld + 1 + 2))), .val (.ref b149), .val (.int c0)] [(.int (Int32.ofNat (ld + 1 + 2))), (.ref x)])) rfl hml.symm (Steps.refl _) (argsL := [(.int (Int32.ofNat (ld + 1 + 2)))]) (rest := []) (lenOf pd_11 rfl) rfl (o_mr rfl) (hb hby (od dB8 54 rfl)) (fun _ _ => ⟨rfl, e251, (by decide : 2 + 0 ≤ _), (by decide : 20 + 0 ≤ _)⟩)
                dsimp only [Pt.U, Pt.locs, Pt.cells, Pt.slots] at X252 l252 y252 z252 st252 hQ252
                replace l252 := l252.symm; replace y252 := y252.symm; replace z252 := z252.symm; subst l252 y252 z252
                obtain ⟨rfl, rfl, e252⟩ := hQ252
                have N252 := Fr.app N251 (Fr.nil n0)
                rw [vc252] at st252
                refine own_via st252 ?_
                show own_Fin p e below _ (T252.setTop (mkF m 106 #[.val (.ref x), .val (.int (Int32.ofNat (Q + 1))), .val (.int (Int32.ofNat (ld + 1 + 2))), .val (.ref b149), .val (.int c0)] [(.int (92 : Int32))]))
                refine o_ist X252 H (od dB8 55 rfl) (L' := #[.val (.ref x), .val (.int (Int32.ofNat (Q + 1))), .val (.int (Int32.ofNat (ld + 1 + 2))), .val (.ref b149), .val (.int (92 : Int32))]) rfl ?_
                refine o_ild X252 H (od dB8 56 rfl) rfl ?_
                refine o_bi X252 H (od dB8 57 rfl) (v := 92) rfl ?_
                refine o_icN X252 H (od dB8 58 rfl) (teq (by decide : (92 : Int32) = (92 : Int32))).2 ?_
                refine own_on (fun tq => XS.iinc X252.here hx rfl (hb hby (od dB8 59 rfl)) rfl (l' := #[.val (.ref x), .val (.int (Int32.ofNat (Q + 1))), .val (.int ((Int32.ofNat (ld + 1 + 2)) + (1 : Int32))), .val (.ref b149), .val (.int (92 : Int32))]) rfl) ?_
                show own_Fin p e below _ (T252.setTop (mkF m 118 #[.val (.ref x), .val (.int (Int32.ofNat (Q + 1))), .val (.int ((Int32.ofNat (ld + 1 + 2)) + (1 : Int32))), .val (.ref b149), .val (.int (92 : Int32))] []))
                rw [own_inc]
                show own_Fin p e below _ (T252.setTop (mkF m 118 #[.val (.ref x), .val (.int (Int32.ofNat (Q + 1))), .val (.int (Int32.ofNat (ld + 1 + 3))), .val (.ref b149), .val (.int (92 : Int32))] []))
                refine o_ildN X252 H (od dB8 60 rfl) rfl ?_
                refine o_ildN X252 H (od dB8 61 rfl) rfl ?_
                refine o_icN X252 H (od dB8 62 rfl) (tlt (own_olt (by omega) (by omega))).2.1 ?_
                refine o_aldN X252 H (od dB8 63 rfl) rfl rfl ?_
                refine o_ildN X252 H (od dB8 64 rfl) rfl ?_
                have vc253 : (own_cs ld ((true, c0) :: (true, c1) :: es1) tl).getD (ld + 1 + 3) 0 = c1 := (own_mid _ _ _ _).trans rfl
                obtain ⟨cq253, kq253, q253a, q253b, q253c⟩ := isOf hZ e252 (((Ex.ext E149).keep K150).keep K219)
                obtain ⟨_, _, ⟨T253, L253, k253, n253⟩, -, X253, ⟨Lc253, hQ253, l253, y253, z253⟩, st253⟩ := X252.virtualBack hx (y := (⟨"java/lang/String", "charAt", "(I)C"⟩ : MethodName)) (z := (⟨"java/lang/String", "charAt", "(I)C"⟩ : MethodName)) hown (mvT hZ (ow hw 48 rfl)) (mvT hZ (ow hw 49 rfl)) (notFace_of_selects (args := #[]) (mvT hZ (ow hw 51 rfl))) (mvT hZ (ow hw 51 rfl)) (mvT hZ (ow hw 50 rfl)) (by decide) (StrChars.Road.chN (W := 0) hZ (own_wC hw) (ow hw 6 rfl) (((Ex.ext E149).keep K150).keep K219) (((Vx.ext E149).keep K150 (ninS ne149_x nin0)).keep K219 (ninS ne149_x (ninS ne150_x nin0))) (((Cx.ext E149).keep K150 (ninS ne149_x nin0)).keep K219 (ninS ne149_x (ninS ne150_x nin0))) (((Kx.ext E149).keep K150 (ninS ne149_tx nin0)).keep K219 (ninS ne149_tx (ninS ne150_tx nin0))) cod r16 (SC.ext (((O.ext E149).keep K150 (allS gn149 all0)).keep K219 (allS gn149 (allS gt150 all0))).2) hz (SF.ext (((O.ext E149).keep K150 (allS gn149 all0)).keep K219 (allS gn149 (allS gt150 all0))).2) hfm (i := ld + 1 + 3) (by rw [own_lenC]; omega) (by rw [own_lenC]; simp only [own_enc, List.length_cons, List.length_nil]; omega) rfl (by decide) (by decide)) q253a q253c (g := (mkF m 125 #[.val (.ref x), .val (.int (Int32.ofNat (Q + 1))), .val (.int (Int32.ofNat (ld + 1 + 3))), .val (.ref b149), .val (.int (92 : Int32))] [(.int (Int32.ofNat (ld + 1 + 3))), (.ref x)])) rfl hml.symm (Steps.refl _) (argsL := [(.int (Int32.ofNat (ld + 1 + 3)))]) (rest := []) (lenOf pd_11 rfl) rfl (o_mr rfl) (hb hby (od dB8 65 rfl)) (fun _ _ => ⟨rfl, e252, (by decide : 2 + 0 ≤ _), (by decide : 20 + 0 ≤ _)⟩)
                dsimp only [Pt.U, Pt.locs, Pt.cells, Pt.slots] at X253 l253 y253 z253 st253 hQ253
                replace l253 := l253.symm; replace y253 := y253.symm; replace z253 := z253.symm; subst l253 y253 z253
                obtain ⟨rfl, rfl, e253⟩ := hQ253
                have N253 := Fr.app N252 (Fr.nil n0)
                rw [vc253] at st253
                refine own_via st253 ?_
                show own_Fin p e below _ (T253.setTop (mkF m 128 #[.val (.ref x), .val (.int (Int32.ofNat (Q + 1))), .val (.int (Int32.ofNat (ld + 1 + 3))), .val (.ref b149), .val (.int (92 : Int32))] [(.int c1)]))
                refine o_go X253 H (od dB8 66 rfl) (pc' := 132) (by decide) (by decide) ?_
                refine o_ist X253 H (od dB8 68 rfl) (L' := #[.val (.ref x), .val (.int (Int32.ofNat (Q + 1))), .val (.int (Int32.ofNat (ld + 1 + 3))), .val (.ref b149), .val (.int c1)]) rfl ?_
                refine own_merge (B := (T253.setTop (mkF m 188 #[.val (.ref x), .val (.int (Int32.ofNat (Q + 1))), .val (.int (Int32.ofNat (ld + 1 + 3))), .val (.ref b149), .val (.int c1)] []))) ?_ (fun HM => ?_)
                · show own_Fin p e below _ (T253.setTop (mkF m 188 #[.val (.ref x), .val (.int (Int32.ofNat (Q + 1))), .val (.int (Int32.ofNat (ld + 1 + 3))), .val (.ref b149), .val (.int c1)] []))
                  refine o_aldN X253 H (od dB8 93 rfl) rfl rfl ?_
                  refine o_ild X253 H (od dB8 94 rfl) rfl ?_
                  refine o_vs (argsL := [(.int c1)]) (rest := []) X253 H hml hZ hown (ow hw 143 rfl) (ow hw 144 rfl) (ow hw 146 rfl) (ow hw 145 rfl) (backOf (W := 0) (rmPb1 l Z a0 hw [] b149 c1 z tb150 kt150 c0 T219.heap n0 (by exact (Nat.le_trans (Nat.le_trans (Nat.le_trans Z0 E149.1) K150.1) K219.1)) hz (((O.ext E149).keep K150 (allS gn149 all0)).keep K219 (allS gn149 (allS gt150 all0))) SC Eq219 Vq219 Cq219 Dq219 Aq219 gn149 gt150 ne150_b149 (own_u255 u1)) hZ (ow hw 147 rfl) (ow hw 72 rfl) (by decide) (by decide)) (by decide) Eq219 e253 pd_14 (od dB8 95 rfl) rfl rfl rfl rfl rfl (by decide) (by decide) fun _ T254 Lc254 X254 hQ254 => ?_
                  obtain ⟨rfl, N254q, K254, Eq254, Vq254, Cq254, Dq254, Aq254⟩ := hQ254
                  have N254 := Fr.app N253 N254q
                  have y255 := (y220.trans K254 (allS (Or.inr gk149) (allS (Or.inr (Nat.le_trans ((Keep.refl h0 []).ext E149).1 gk150)) all0)))
                  have y256 := ((((O.ext E149).keep K150 (allS gn149 all0)).keep K219 (allS gn149 (allS gt150 all0))).keep K254 (allS gn149 (allS gt150 all0)))
                  have y257 := ((((Vx.ext E149).keep K150 (ninS ne149_x nin0)).keep K219 (ninS ne149_x (ninS ne150_x nin0))).keep K254 (ninS ne149_x (ninS ne150_x nin0)))
                  have y258 := ((((Cx.ext E149).keep K150 (ninS ne149_x nin0)).keep K219 (ninS ne149_x (ninS ne150_x nin0))).keep K254 (ninS ne149_x (ninS ne150_x nin0)))
                  have y259 := ((((Kx.ext E149).keep K150 (ninS ne149_tx nin0)).keep K219 (ninS ne149_tx (ninS ne150_tx nin0))).keep K254 (ninS ne149_tx (ninS ne150_tx nin0)))
                  show own_Fin p e below _ (T254.setTop (mkF m 194 #[.val (.ref x), .val (.int (Int32.ofNat (Q + 1))), .val (.int (Int32.ofNat (ld + 1 + 3))), .val (.ref b149), .val (.int c1)] [(.ref b149)]))
                  refine o_pop X254 H (od dB8 96 rfl) rfl ?_
                  refine own_on (fun tq => XS.iinc X254.here hx rfl (hb hby (od dB8 97 rfl)) rfl (l' := #[.val (.ref x), .val (.int (Int32.ofNat (Q + 1))), .val (.int ((Int32.ofNat (ld + 1 + 3)) + (1 : Int32))), .val (.ref b149), .val (.int c1)]) rfl) ?_
                  show own_Fin p e below _ (T254.setTop (mkF m 198 #[.val (.ref x), .val (.int (Int32.ofNat (Q + 1))), .val (.int ((Int32.ofNat (ld + 1 + 3)) + (1 : Int32))), .val (.ref b149), .val (.int c1)] []))
                  refine o_go X254 H (od dB8 98 rfl) (pc' := 86) (by decide) (by decide) ?_
                  rw [own_inc]
                  show own_Fin p e below _ (T254.setTop (mkF m 86 #[.val (.ref x), .val (.int (Int32.ofNat (Q + 1))), .val (.int (Int32.ofNat (ld + 1 + 4))), .val (.ref b149), .val (.int c1)] []))
                  rcases es1 with _ | ⟨⟨b2, c2⟩, es2⟩
                  · have hP : Q = ld + 1 + 4 := by rw [hQ]; simp only [own_enc, List.length_cons, List.length_nil]
                    show own_Fin p e below _ (T254.setTop (mkF m 86 #[.val (.ref x), .val (.int (Int32.ofNat (Q + 1))), .val (.int (Int32.ofNat (ld + 1 + 4))), .val (.ref b149), .val (.int c1)] []))
                    refine o_ildN X254 H (od dB8 44 rfl) rfl ?_
                    refine o_ildN X254 H (od dB8 45 rfl) rfl ?_
                    refine o_icN X254 H (od dB8 46 rfl) (tlt (own_olt (by omega) (by omega))).2.1 ?_
                    refine o_aldN X254 H (od dB8 47 rfl) rfl rfl ?_
                    refine o_ildN X254 H (od dB8 48 rfl) rfl ?_
                    have vc260 : (own_cs ld ((true, c0) :: (true, c1) :: []) tl).getD (ld + 1 + 4) 0 = (34 : Int32) := (own_mid _ _ _ _).trans rfl
                    obtain ⟨cq260, kq260, q260a, q260b, q260c⟩ := isOf hZ rfl ((((Ex.ext E149).keep K150).keep K219).keep K254)
                    obtain ⟨_, _, ⟨T260, L260, k260, n260⟩, -, X260, ⟨Lc260, hQ260, l260, y260, z260⟩, st260⟩ := X254.virtualBack hx (y := (⟨"java/lang/String", "charAt", "(I)C"⟩ : MethodName)) (z := (⟨"java/lang/String", "charAt", "(I)C"⟩ : MethodName)) hown (mvT hZ (ow hw 48 rfl)) (mvT hZ (ow hw 49 rfl)) (notFace_of_selects (args := #[]) (mvT hZ (ow hw 51 rfl))) (mvT hZ (ow hw 51 rfl)) (mvT hZ (ow hw 50 rfl)) (by decide) (StrChars.Road.chN (W := 0) hZ (own_wC hw) (ow hw 6 rfl) ((((Ex.ext E149).keep K150).keep K219).keep K254) y257 y258 y259 cod r16 (SC.ext y256.2) hz (SF.ext y256.2) hfm (i := ld + 1 + 4) (by rw [own_lenC]; omega) (by rw [own_lenC]; simp only [own_enc, List.length_cons, List.length_nil]; omega) rfl (by decide) (by decide)) q260a q260c (g := (mkF m 93 #[.val (.ref x), .val (.int (Int32.ofNat (Q + 1))), .val (.int (Int32.ofNat (ld + 1 + 4))), .val (.ref b149), .val (.int c1)] [(.int (Int32.ofNat (ld + 1 + 4))), (.ref x)])) rfl hml.symm (Steps.refl _) (argsL := [(.int (Int32.ofNat (ld + 1 + 4)))]) (rest := []) (lenOf pd_11 rfl) rfl (o_mr rfl) (hb hby (od dB8 49 rfl)) (fun _ _ => ⟨rfl, rfl, (by decide : 2 + 0 ≤ _), (by decide : 20 + 0 ≤ _)⟩)
                    dsimp only [Pt.U, Pt.locs, Pt.cells, Pt.slots] at X260 l260 y260 z260 st260 hQ260
                    replace l260 := l260.symm; replace y260 := y260.symm; replace z260 := z260.symm; subst l260 y260 z260
                    obtain ⟨rfl, rfl, e260⟩ := hQ260
                    have N260 := Fr.app N254 (Fr.nil n0)
                    rw [vc260] at st260
                    refine own_via st260 ?_
                    show own_Fin p e below _ (T260.setTop (mkF m 96 #[.val (.ref x), .val (.int (Int32.ofNat (Q + 1))), .val (.int (Int32.ofNat (ld + 1 + 4))), .val (.ref b149), .val (.int c1)] [(.int (34 : Int32))]))
                    refine o_bi X260 H (od dB8 50 rfl) (v := 34) rfl ?_
                    refine o_icY X260 H (od dB8 51 rfl) (teq (by decide : (34 : Int32) = (34 : Int32))).1 (pc' := 201) (by decide) (by decide) ?_
                    refine o_ildN X260 H (od dB8 99 rfl) rfl ?_
                    refine o_ildN X260 H (od dB8 100 rfl) rfl ?_
                    refine o_ic X260 H (od dB8 101 rfl) (v := 1) rfl ?_
                    refine o_isub X260 H (od dB8 102 rfl) ?_
                    rw [own_sub1]
                    show own_Fin p e below _ (T260.setTop (mkF m 205 #[.val (.ref x), .val (.int (Int32.ofNat (Q + 1))), .val (.int (Int32.ofNat (ld + 1 + 4))), .val (.ref b149), .val (.int c1)] [(.int (Int32.ofNat Q)), (.int (Int32.ofNat (ld + 1 + 4)))]))
                    refine o_icY X260 H (od dB8 103 rfl) (teq (congrArg Int32.ofNat hP.symm)).1 (pc' := 218) (by decide) (by decide) ?_
                    refine o_aldN X260 H (od dB8 109 rfl) rfl rfl ?_
                    refine o_vs (argsL := []) (rest := []) X260 H hml hZ hown (ow hw 88 rfl) (ow hw 89 rfl) (ow hw 91 rfl) (ow hw 90 rfl) (backOf (W := 0) (rmTs2 l Z a0 hw [] b149 z tb150 kt150 c0 c1 T254.heap n0 (by exact (Nat.le_trans (Nat.le_trans (Nat.le_trans (Nat.le_trans Z0 E149.1) K150.1) K219.1) K254.1)) hz y256 SC Eq254 Vq254 Cq254 Dq254 Aq254 gn149 gt150 ne150_b149) hZ (ow hw 92 rfl) (ow hw 72 rfl) (by decide) (by decide)) (by decide) Eq254 e260 pd_13 (od dB8 110 rfl) rfl rfl rfl rfl rfl (by decide) (by decide) fun _ T261 Lc261 X261 hQ261 => ?_
                    obtain ⟨y261s, x261, kx261, rfl, N261q, K261, gk261, Eq261, Cq261, Vq261, Aq261⟩ := hQ261
                    have N261 := Fr.app N260 N261q
                    have y262 := (Nat.le_trans (Nat.le_trans (Nat.le_trans (Nat.le_trans (Nat.le_trans Z0 E149.1) K150.1) K219.1) K254.1) K261.1)
                    show own_Fin p e below _ (T261.setTop (mkF m 222 #[.val (.ref x), .val (.int (Int32.ofNat (Q + 1))), .val (.int (Int32.ofNat (ld + 1 + 4))), .val (.ref b149), .val (.int c1)] [(.ref y261s)]))
                    exact own_ret (t := (.object "java/lang/String")) X261 hx hlk hret rfl (Or.inr (Or.inr (Or.inr (Or.inr ⟨rfl, rfl, rfl⟩)))) (hb hby (od dB8 111 rfl)) (by show Q8 Z x z fm tx kx ld tl ((true, c0) :: (true, c1) :: []) N2 vs h0 n0 _ T261.heap _; exact ⟨y261s, x261, kx261, rfl, N261, (y255.trans K261 all0), Eq261, Cq261, Vq261, Aq261⟩) (by decide) (by decide)
                  · cases b2
                    · have u2 : own_unit (false, c2) := hu _ (List.mem_of_getElem? (i := 2) rfl)
                      have hP2 : Q = ld + 1 + 5 + (own_enc es2).length := by rw [hQ]; simp only [own_enc, List.length_cons]; omega
                      show own_Fin p e below _ (T254.setTop (mkF m 86 #[.val (.ref x), .val (.int (Int32.ofNat (Q + 1))), .val (.int (Int32.ofNat (ld + 1 + 4))), .val (.ref b149), .val (.int c1)] []))
                      refine o_ildN X254 H (od dB8 44 rfl) rfl ?_
                      refine o_ildN X254 H (od dB8 45 rfl) rfl ?_
                      refine o_icN X254 H (od dB8 46 rfl) (tlt (own_olt (by omega) (by omega))).2.1 ?_
                      refine o_aldN X254 H (od dB8 47 rfl) rfl rfl ?_
                      refine o_ildN X254 H (od dB8 48 rfl) rfl ?_
                      have vc263 : (own_cs ld ((true, c0) :: (true, c1) :: (false, c2) :: es2) tl).getD (ld + 1 + 4) 0 = c2 := (own_mid _ _ _ _).trans rfl
                      obtain ⟨cq263, kq263, q263a, q263b, q263c⟩ := isOf hZ rfl ((((Ex.ext E149).keep K150).keep K219).keep K254)
                      obtain ⟨_, _, ⟨T263, L263, k263, n263⟩, -, X263, ⟨Lc263, hQ263, l263, y263, z263⟩, st263⟩ := X254.virtualBack hx (y := (⟨"java/lang/String", "charAt", "(I)C"⟩ : MethodName)) (z := (⟨"java/lang/String", "charAt", "(I)C"⟩ : MethodName)) hown (mvT hZ (ow hw 48 rfl)) (mvT hZ (ow hw 49 rfl)) (notFace_of_selects (args := #[]) (mvT hZ (ow hw 51 rfl))) (mvT hZ (ow hw 51 rfl)) (mvT hZ (ow hw 50 rfl)) (by decide) (StrChars.Road.chN (W := 0) hZ (own_wC hw) (ow hw 6 rfl) ((((Ex.ext E149).keep K150).keep K219).keep K254) y257 y258 y259 cod r16 (SC.ext y256.2) hz (SF.ext y256.2) hfm (i := ld + 1 + 4) (by rw [own_lenC]; omega) (by rw [own_lenC]; simp only [own_enc, List.length_cons, List.length_nil]; omega) rfl (by decide) (by decide)) q263a q263c (g := (mkF m 93 #[.val (.ref x), .val (.int (Int32.ofNat (Q + 1))), .val (.int (Int32.ofNat (ld + 1 + 4))), .val (.ref b149), .val (.int c1)] [(.int (Int32.ofNat (ld + 1 + 4))), (.ref x)])) rfl hml.symm (Steps.refl _) (argsL := [(.int (Int32.ofNat (ld + 1 + 4)))]) (rest := []) (lenOf pd_11 rfl) rfl (o_mr rfl) (hb hby (od dB8 49 rfl)) (fun _ _ => ⟨rfl, rfl, (by decide : 2 + 0 ≤ _), (by decide : 20 + 0 ≤ _)⟩)
                      dsimp only [Pt.U, Pt.locs, Pt.cells, Pt.slots] at X263 l263 y263 z263 st263 hQ263
                      replace l263 := l263.symm; replace y263 := y263.symm; replace z263 := z263.symm; subst l263 y263 z263
                      obtain ⟨rfl, rfl, e263⟩ := hQ263
                      have N263 := Fr.app N254 (Fr.nil n0)
                      rw [vc263] at st263
                      refine own_via st263 ?_
                      show own_Fin p e below _ (T263.setTop (mkF m 96 #[.val (.ref x), .val (.int (Int32.ofNat (Q + 1))), .val (.int (Int32.ofNat (ld + 1 + 4))), .val (.ref b149), .val (.int c1)] [(.int c2)]))
                      refine o_bi X263 H (od dB8 50 rfl) (v := 34) rfl ?_
                      refine o_icN X263 H (od dB8 51 rfl) (feq (own_uf u2).1).1 ?_
                      refine o_aldN X263 H (od dB8 52 rfl) rfl rfl ?_
                      refine o_ildN X263 H (od dB8 53 rfl) rfl ?_
                      have vc264 : (own_cs ld ((true, c0) :: (true, c1) :: (false, c2) :: es2) tl).getD (ld + 1 + 4) 0 = c2 := (own_mid _ _ _ _).trans rfl
                      obtain ⟨cq264, kq264, q264a, q264b, q264c⟩ := isOf hZ e263 ((((Ex.ext E149).keep K150).keep K219).keep K254)
                      obtain ⟨_, _, ⟨T264, L264, k264, n264⟩, -, X264, ⟨Lc264, hQ264, l264, y264, z264⟩, st264⟩ := X263.virtualBack hx (y := (⟨"java/lang/String", "charAt", "(I)C"⟩ : MethodName)) (z := (⟨"java/lang/String", "charAt", "(I)C"⟩ : MethodName)) hown (mvT hZ (ow hw 48 rfl)) (mvT hZ (ow hw 49 rfl)) (notFace_of_selects (args := #[]) (mvT hZ (ow hw 51 rfl))) (mvT hZ (ow hw 51 rfl)) (mvT hZ (ow hw 50 rfl)) (by decide) (StrChars.Road.chN (W := 0) hZ (own_wC hw) (ow hw 6 rfl) ((((Ex.ext E149).keep K150).keep K219).keep K254) y257 y258 y259 cod r16 (SC.ext y256.2) hz (SF.ext y256.2) hfm (i := ld + 1 + 4) (by rw [own_lenC]; omega) (by rw [own_lenC]; simp only [own_enc, List.length_cons, List.length_nil]; omega) rfl (by decide) (by decide)) q264a q264c (g := (mkF m 103 #[.val (.ref x), .val (.int (Int32.ofNat (Q + 1))), .val (.int (Int32.ofNat (ld + 1 + 4))), .val (.ref b149), .val (.int c1)] [(.int (Int32.ofNat (ld + 1 + 4))), (.ref x)])) rfl hml.symm (Steps.refl _) (argsL := [(.int (Int32.ofNat (ld + 1 + 4)))]) (rest := []) (lenOf pd_11 rfl) rfl (o_mr rfl) (hb hby (od dB8 54 rfl)) (fun _ _ => ⟨rfl, e263, (by decide : 2 + 0 ≤ _), (by decide : 20 + 0 ≤ _)⟩)
                      dsimp only [Pt.U, Pt.locs, Pt.cells, Pt.slots] at X264 l264 y264 z264 st264 hQ264
                      replace l264 := l264.symm; replace y264 := y264.symm; replace z264 := z264.symm; subst l264 y264 z264
                      obtain ⟨rfl, rfl, e264⟩ := hQ264
                      have N264 := Fr.app N263 (Fr.nil n0)
                      rw [vc264] at st264
                      refine own_via st264 ?_
                      show own_Fin p e below _ (T264.setTop (mkF m 106 #[.val (.ref x), .val (.int (Int32.ofNat (Q + 1))), .val (.int (Int32.ofNat (ld + 1 + 4))), .val (.ref b149), .val (.int c1)] [(.int c2)]))
                      refine o_ist X264 H (od dB8 55 rfl) (L' := #[.val (.ref x), .val (.int (Int32.ofNat (Q + 1))), .val (.int (Int32.ofNat (ld + 1 + 4))), .val (.ref b149), .val (.int c2)]) rfl ?_
                      refine o_ild X264 H (od dB8 56 rfl) rfl ?_
                      refine o_bi X264 H (od dB8 57 rfl) (v := 92) rfl ?_
                      refine o_icY X264 H (od dB8 58 rfl) (feq (own_uf u2).2.1).2 (pc' := 158) (by decide) (by decide) ?_
                      refine o_ild X264 H (od dB8 80 rfl) rfl ?_
                      refine o_bi X264 H (od dB8 81 rfl) (v := 32) rfl ?_
                      refine o_icN X264 H (od dB8 82 rfl) (flt (own_uf u2).2.2.1).1 ?_
                      refine o_ild X264 H (od dB8 83 rfl) rfl ?_
                      refine o_bi X264 H (od dB8 84 rfl) (v := 126) rfl ?_
                      refine o_icY X264 H (od dB8 85 rfl) (flt (own_uf u2).2.2.2).2.2.2 (pc' := 188) (by decide) (by decide) ?_
                      refine o_aldN X264 H (od dB8 93 rfl) rfl rfl ?_
                      refine o_ild X264 H (od dB8 94 rfl) rfl ?_
                      refine o_vs (argsL := [(.int c2)]) (rest := []) X264 H hml hZ hown (ow hw 143 rfl) (ow hw 144 rfl) (ow hw 146 rfl) (ow hw 145 rfl) (backOf (W := 0) (rmPb2 l Z a0 hw [] b149 c2 z tb150 kt150 c0 c1 T254.heap n0 (by exact (Nat.le_trans (Nat.le_trans (Nat.le_trans (Nat.le_trans Z0 E149.1) K150.1) K219.1) K254.1)) hz y256 SC Eq254 Vq254 Cq254 Dq254 Aq254 gn149 gt150 ne150_b149 (own_u255 u2)) hZ (ow hw 147 rfl) (ow hw 72 rfl) (by decide) (by decide)) (by decide) Eq254 e264 pd_14 (od dB8 95 rfl) rfl rfl rfl rfl rfl (by decide) (by decide) fun _ T265 Lc265 X265 hQ265 => ?_
                      obtain ⟨rfl, N265q, K265, Eq265, Vq265, Cq265, Dq265, Aq265⟩ := hQ265
                      have N265 := Fr.app N264 N265q
                      have y266 := (y255.trans K265 (allS (Or.inr gk149) (allS (Or.inr (Nat.le_trans ((Keep.refl h0 []).ext E149).1 gk150)) all0)))
                      have y267 := (Nat.le_trans (Nat.le_trans (Nat.le_trans (Nat.le_trans (Nat.le_trans Z0 E149.1) K150.1) K219.1) K254.1) K265.1)
                      show own_Fin p e below _ (T265.setTop (mkF m 194 #[.val (.ref x), .val (.int (Int32.ofNat (Q + 1))), .val (.int (Int32.ofNat (ld + 1 + 4))), .val (.ref b149), .val (.int c2)] [(.ref b149)]))
                      refine o_pop X265 H (od dB8 96 rfl) rfl ?_
                      refine own_on (fun tq => XS.iinc X265.here hx rfl (hb hby (od dB8 97 rfl)) rfl (l' := #[.val (.ref x), .val (.int (Int32.ofNat (Q + 1))), .val (.int ((Int32.ofNat (ld + 1 + 4)) + (1 : Int32))), .val (.ref b149), .val (.int c2)]) rfl) ?_
                      show own_Fin p e below _ (T265.setTop (mkF m 198 #[.val (.ref x), .val (.int (Int32.ofNat (Q + 1))), .val (.int ((Int32.ofNat (ld + 1 + 4)) + (1 : Int32))), .val (.ref b149), .val (.int c2)] []))
                      refine o_go X265 H (od dB8 98 rfl) (pc' := 86) (by decide) (by decide) ?_
                      rw [own_inc]
                      show own_Fin p e below _ (T265.setTop (mkF m 86 #[.val (.ref x), .val (.int (Int32.ofNat (Q + 1))), .val (.int (Int32.ofNat (ld + 1 + 5))), .val (.ref b149), .val (.int c2)] []))
                      rcases es2 with _ | ⟨⟨b3, c3⟩, es3⟩
                      · have hP : Q = ld + 1 + 5 := by rw [hQ]; simp only [own_enc, List.length_cons, List.length_nil]
                        show own_Fin p e below _ (T265.setTop (mkF m 86 #[.val (.ref x), .val (.int (Int32.ofNat (Q + 1))), .val (.int (Int32.ofNat (ld + 1 + 5))), .val (.ref b149), .val (.int c2)] []))
                        refine o_ildN X265 H (od dB8 44 rfl) rfl ?_
                        refine o_ildN X265 H (od dB8 45 rfl) rfl ?_
                        refine o_icN X265 H (od dB8 46 rfl) (tlt (own_olt (by omega) (by omega))).2.1 ?_
                        refine o_aldN X265 H (od dB8 47 rfl) rfl rfl ?_
                        refine o_ildN X265 H (od dB8 48 rfl) rfl ?_
                        have vc268 : (own_cs ld ((true, c0) :: (true, c1) :: (false, c2) :: []) tl).getD (ld + 1 + 5) 0 = (34 : Int32) := (own_mid _ _ _ _).trans rfl
                        obtain ⟨cq268, kq268, q268a, q268b, q268c⟩ := isOf hZ rfl (((((Ex.ext E149).keep K150).keep K219).keep K254).keep K265)
                        obtain ⟨_, _, ⟨T268, L268, k268, n268⟩, -, X268, ⟨Lc268, hQ268, l268, y268, z268⟩, st268⟩ := X265.virtualBack hx (y := (⟨"java/lang/String", "charAt", "(I)C"⟩ : MethodName)) (z := (⟨"java/lang/String", "charAt", "(I)C"⟩ : MethodName)) hown (mvT hZ (ow hw 48 rfl)) (mvT hZ (ow hw 49 rfl)) (notFace_of_selects (args := #[]) (mvT hZ (ow hw 51 rfl))) (mvT hZ (ow hw 51 rfl)) (mvT hZ (ow hw 50 rfl)) (by decide) (StrChars.Road.chN (W := 0) hZ (own_wC hw) (ow hw 6 rfl) (((((Ex.ext E149).keep K150).keep K219).keep K254).keep K265) (y257.keep K265 (ninS ne149_x (ninS ne150_x nin0))) (y258.keep K265 (ninS ne149_x (ninS ne150_x nin0))) (y259.keep K265 (ninS ne149_tx (ninS ne150_tx nin0))) cod r16 (SC.ext (y256.keep K265 (allS gn149 (allS gt150 all0))).2) hz (SF.ext (y256.keep K265 (allS gn149 (allS gt150 all0))).2) hfm (i := ld + 1 + 5) (by rw [own_lenC]; omega) (by rw [own_lenC]; simp only [own_enc, List.length_cons, List.length_nil]; omega) rfl (by decide) (by decide)) q268a q268c (g := (mkF m 93 #[.val (.ref x), .val (.int (Int32.ofNat (Q + 1))), .val (.int (Int32.ofNat (ld + 1 + 5))), .val (.ref b149), .val (.int c2)] [(.int (Int32.ofNat (ld + 1 + 5))), (.ref x)])) rfl hml.symm (Steps.refl _) (argsL := [(.int (Int32.ofNat (ld + 1 + 5)))]) (rest := []) (lenOf pd_11 rfl) rfl (o_mr rfl) (hb hby (od dB8 49 rfl)) (fun _ _ => ⟨rfl, rfl, (by decide : 2 + 0 ≤ _), (by decide : 20 + 0 ≤ _)⟩)
                        dsimp only [Pt.U, Pt.locs, Pt.cells, Pt.slots] at X268 l268 y268 z268 st268 hQ268
                        replace l268 := l268.symm; replace y268 := y268.symm; replace z268 := z268.symm; subst l268 y268 z268
                        obtain ⟨rfl, rfl, e268⟩ := hQ268
                        have N268 := Fr.app N265 (Fr.nil n0)
                        rw [vc268] at st268
                        refine own_via st268 ?_
                        show own_Fin p e below _ (T268.setTop (mkF m 96 #[.val (.ref x), .val (.int (Int32.ofNat (Q + 1))), .val (.int (Int32.ofNat (ld + 1 + 5))), .val (.ref b149), .val (.int c2)] [(.int (34 : Int32))]))
                        refine o_bi X268 H (od dB8 50 rfl) (v := 34) rfl ?_
                        refine o_icY X268 H (od dB8 51 rfl) (teq (by decide : (34 : Int32) = (34 : Int32))).1 (pc' := 201) (by decide) (by decide) ?_
                        refine o_ildN X268 H (od dB8 99 rfl) rfl ?_
                        refine o_ildN X268 H (od dB8 100 rfl) rfl ?_
                        refine o_ic X268 H (od dB8 101 rfl) (v := 1) rfl ?_
                        refine o_isub X268 H (od dB8 102 rfl) ?_
                        rw [own_sub1]
                        show own_Fin p e below _ (T268.setTop (mkF m 205 #[.val (.ref x), .val (.int (Int32.ofNat (Q + 1))), .val (.int (Int32.ofNat (ld + 1 + 5))), .val (.ref b149), .val (.int c2)] [(.int (Int32.ofNat Q)), (.int (Int32.ofNat (ld + 1 + 5)))]))
                        refine o_icY X268 H (od dB8 103 rfl) (teq (congrArg Int32.ofNat hP.symm)).1 (pc' := 218) (by decide) (by decide) ?_
                        refine o_aldN X268 H (od dB8 109 rfl) rfl rfl ?_
                        refine o_vs (argsL := []) (rest := []) X268 H hml hZ hown (ow hw 88 rfl) (ow hw 89 rfl) (ow hw 91 rfl) (ow hw 90 rfl) (backOf (W := 0) (rmTs3 l Z a0 hw [] b149 z tb150 kt150 c0 c1 c2 T265.heap n0 (by exact y267) hz (y256.keep K265 (allS gn149 (allS gt150 all0))) SC Eq265 Vq265 Cq265 Dq265 Aq265 gn149 gt150 ne150_b149) hZ (ow hw 92 rfl) (ow hw 72 rfl) (by decide) (by decide)) (by decide) Eq265 e268 pd_13 (od dB8 110 rfl) rfl rfl rfl rfl rfl (by decide) (by decide) fun _ T269 Lc269 X269 hQ269 => ?_
                        obtain ⟨y269s, x269, kx269, rfl, N269q, K269, gk269, Eq269, Cq269, Vq269, Aq269⟩ := hQ269
                        have N269 := Fr.app N268 N269q
                        show own_Fin p e below _ (T269.setTop (mkF m 222 #[.val (.ref x), .val (.int (Int32.ofNat (Q + 1))), .val (.int (Int32.ofNat (ld + 1 + 5))), .val (.ref b149), .val (.int c2)] [(.ref y269s)]))
                        exact own_ret (t := (.object "java/lang/String")) X269 hx hlk hret rfl (Or.inr (Or.inr (Or.inr (Or.inr ⟨rfl, rfl, rfl⟩)))) (hb hby (od dB8 111 rfl)) (by show Q8 Z x z fm tx kx ld tl ((true, c0) :: (true, c1) :: (false, c2) :: []) N2 vs h0 n0 _ T269.heap _; exact ⟨y269s, x269, kx269, rfl, N269, (y266.trans K269 all0), Eq269, Cq269, Vq269, Aq269⟩) (by decide) (by decide)
                      · exact absurd hes (by simp)
                    · have u2 : own_unit (true, c2) := hu _ (List.mem_of_getElem? (i := 2) rfl)
                      have hP2 : Q = ld + 1 + 6 + (own_enc es2).length := by rw [hQ]; simp only [own_enc, List.length_cons]; omega
                      show own_Fin p e below _ (T254.setTop (mkF m 86 #[.val (.ref x), .val (.int (Int32.ofNat (Q + 1))), .val (.int (Int32.ofNat (ld + 1 + 4))), .val (.ref b149), .val (.int c1)] []))
                      refine o_ildN X254 H (od dB8 44 rfl) rfl ?_
                      refine o_ildN X254 H (od dB8 45 rfl) rfl ?_
                      refine o_icN X254 H (od dB8 46 rfl) (tlt (own_olt (by omega) (by omega))).2.1 ?_
                      refine o_aldN X254 H (od dB8 47 rfl) rfl rfl ?_
                      refine o_ildN X254 H (od dB8 48 rfl) rfl ?_
                      have vc270 : (own_cs ld ((true, c0) :: (true, c1) :: (true, c2) :: es2) tl).getD (ld + 1 + 4) 0 = (92 : Int32) := (own_mid _ _ _ _).trans rfl
                      obtain ⟨cq270, kq270, q270a, q270b, q270c⟩ := isOf hZ rfl ((((Ex.ext E149).keep K150).keep K219).keep K254)
                      obtain ⟨_, _, ⟨T270, L270, k270, n270⟩, -, X270, ⟨Lc270, hQ270, l270, y270, z270⟩, st270⟩ := X254.virtualBack hx (y := (⟨"java/lang/String", "charAt", "(I)C"⟩ : MethodName)) (z := (⟨"java/lang/String", "charAt", "(I)C"⟩ : MethodName)) hown (mvT hZ (ow hw 48 rfl)) (mvT hZ (ow hw 49 rfl)) (notFace_of_selects (args := #[]) (mvT hZ (ow hw 51 rfl))) (mvT hZ (ow hw 51 rfl)) (mvT hZ (ow hw 50 rfl)) (by decide) (StrChars.Road.chN (W := 0) hZ (own_wC hw) (ow hw 6 rfl) ((((Ex.ext E149).keep K150).keep K219).keep K254) y257 y258 y259 cod r16 (SC.ext y256.2) hz (SF.ext y256.2) hfm (i := ld + 1 + 4) (by rw [own_lenC]; omega) (by rw [own_lenC]; simp only [own_enc, List.length_cons, List.length_nil]; omega) rfl (by decide) (by decide)) q270a q270c (g := (mkF m 93 #[.val (.ref x), .val (.int (Int32.ofNat (Q + 1))), .val (.int (Int32.ofNat (ld + 1 + 4))), .val (.ref b149), .val (.int c1)] [(.int (Int32.ofNat (ld + 1 + 4))), (.ref x)])) rfl hml.symm (Steps.refl _) (argsL := [(.int (Int32.ofNat (ld + 1 + 4)))]) (rest := []) (lenOf pd_11 rfl) rfl (o_mr rfl) (hb hby (od dB8 49 rfl)) (fun _ _ => ⟨rfl, rfl, (by decide : 2 + 0 ≤ _), (by decide : 20 + 0 ≤ _)⟩)
                      dsimp only [Pt.U, Pt.locs, Pt.cells, Pt.slots] at X270 l270 y270 z270 st270 hQ270
                      replace l270 := l270.symm; replace y270 := y270.symm; replace z270 := z270.symm; subst l270 y270 z270
                      obtain ⟨rfl, rfl, e270⟩ := hQ270
                      have N270 := Fr.app N254 (Fr.nil n0)
                      rw [vc270] at st270
                      refine own_via st270 ?_
                      show own_Fin p e below _ (T270.setTop (mkF m 96 #[.val (.ref x), .val (.int (Int32.ofNat (Q + 1))), .val (.int (Int32.ofNat (ld + 1 + 4))), .val (.ref b149), .val (.int c1)] [(.int (92 : Int32))]))
                      refine o_bi X270 H (od dB8 50 rfl) (v := 34) rfl ?_
                      refine o_icN X270 H (od dB8 51 rfl) (feq (by decide : ¬ ((92 : Int32) = (34 : Int32)))).1 ?_
                      refine o_aldN X270 H (od dB8 52 rfl) rfl rfl ?_
                      refine o_ildN X270 H (od dB8 53 rfl) rfl ?_
                      have vc271 : (own_cs ld ((true, c0) :: (true, c1) :: (true, c2) :: es2) tl).getD (ld + 1 + 4) 0 = (92 : Int32) := (own_mid _ _ _ _).trans rfl
                      obtain ⟨cq271, kq271, q271a, q271b, q271c⟩ := isOf hZ e270 ((((Ex.ext E149).keep K150).keep K219).keep K254)
                      obtain ⟨_, _, ⟨T271, L271, k271, n271⟩, -, X271, ⟨Lc271, hQ271, l271, y271, z271⟩, st271⟩ := X270.virtualBack hx (y := (⟨"java/lang/String", "charAt", "(I)C"⟩ : MethodName)) (z := (⟨"java/lang/String", "charAt", "(I)C"⟩ : MethodName)) hown (mvT hZ (ow hw 48 rfl)) (mvT hZ (ow hw 49 rfl)) (notFace_of_selects (args := #[]) (mvT hZ (ow hw 51 rfl))) (mvT hZ (ow hw 51 rfl)) (mvT hZ (ow hw 50 rfl)) (by decide) (StrChars.Road.chN (W := 0) hZ (own_wC hw) (ow hw 6 rfl) ((((Ex.ext E149).keep K150).keep K219).keep K254) y257 y258 y259 cod r16 (SC.ext y256.2) hz (SF.ext y256.2) hfm (i := ld + 1 + 4) (by rw [own_lenC]; omega) (by rw [own_lenC]; simp only [own_enc, List.length_cons, List.length_nil]; omega) rfl (by decide) (by decide)) q271a q271c (g := (mkF m 103 #[.val (.ref x), .val (.int (Int32.ofNat (Q + 1))), .val (.int (Int32.ofNat (ld + 1 + 4))), .val (.ref b149), .val (.int c1)] [(.int (Int32.ofNat (ld + 1 + 4))), (.ref x)])) rfl hml.symm (Steps.refl _) (argsL := [(.int (Int32.ofNat (ld + 1 + 4)))]) (rest := []) (lenOf pd_11 rfl) rfl (o_mr rfl) (hb hby (od dB8 54 rfl)) (fun _ _ => ⟨rfl, e270, (by decide : 2 + 0 ≤ _), (by decide : 20 + 0 ≤ _)⟩)
                      dsimp only [Pt.U, Pt.locs, Pt.cells, Pt.slots] at X271 l271 y271 z271 st271 hQ271
                      replace l271 := l271.symm; replace y271 := y271.symm; replace z271 := z271.symm; subst l271 y271 z271
                      obtain ⟨rfl, rfl, e271⟩ := hQ271
                      have N271 := Fr.app N270 (Fr.nil n0)
                      rw [vc271] at st271
                      refine own_via st271 ?_
                      show own_Fin p e below _ (T271.setTop (mkF m 106 #[.val (.ref x), .val (.int (Int32.ofNat (Q + 1))), .val (.int (Int32.ofNat (ld + 1 + 4))), .val (.ref b149), .val (.int c1)] [(.int (92 : Int32))]))
                      refine o_ist X271 H (od dB8 55 rfl) (L' := #[.val (.ref x), .val (.int (Int32.ofNat (Q + 1))), .val (.int (Int32.ofNat (ld + 1 + 4))), .val (.ref b149), .val (.int (92 : Int32))]) rfl ?_
                      refine o_ild X271 H (od dB8 56 rfl) rfl ?_
                      refine o_bi X271 H (od dB8 57 rfl) (v := 92) rfl ?_
                      refine o_icN X271 H (od dB8 58 rfl) (teq (by decide : (92 : Int32) = (92 : Int32))).2 ?_
                      refine own_on (fun tq => XS.iinc X271.here hx rfl (hb hby (od dB8 59 rfl)) rfl (l' := #[.val (.ref x), .val (.int (Int32.ofNat (Q + 1))), .val (.int ((Int32.ofNat (ld + 1 + 4)) + (1 : Int32))), .val (.ref b149), .val (.int (92 : Int32))]) rfl) ?_
                      show own_Fin p e below _ (T271.setTop (mkF m 118 #[.val (.ref x), .val (.int (Int32.ofNat (Q + 1))), .val (.int ((Int32.ofNat (ld + 1 + 4)) + (1 : Int32))), .val (.ref b149), .val (.int (92 : Int32))] []))
                      rw [own_inc]
                      show own_Fin p e below _ (T271.setTop (mkF m 118 #[.val (.ref x), .val (.int (Int32.ofNat (Q + 1))), .val (.int (Int32.ofNat (ld + 1 + 5))), .val (.ref b149), .val (.int (92 : Int32))] []))
                      refine o_ildN X271 H (od dB8 60 rfl) rfl ?_
                      refine o_ildN X271 H (od dB8 61 rfl) rfl ?_
                      refine o_icN X271 H (od dB8 62 rfl) (tlt (own_olt (by omega) (by omega))).2.1 ?_
                      refine o_aldN X271 H (od dB8 63 rfl) rfl rfl ?_
                      refine o_ildN X271 H (od dB8 64 rfl) rfl ?_
                      have vc272 : (own_cs ld ((true, c0) :: (true, c1) :: (true, c2) :: es2) tl).getD (ld + 1 + 5) 0 = c2 := (own_mid _ _ _ _).trans rfl
                      obtain ⟨cq272, kq272, q272a, q272b, q272c⟩ := isOf hZ e271 ((((Ex.ext E149).keep K150).keep K219).keep K254)
                      obtain ⟨_, _, ⟨T272, L272, k272, n272⟩, -, X272, ⟨Lc272, hQ272, l272, y272, z272⟩, st272⟩ := X271.virtualBack hx (y := (⟨"java/lang/String", "charAt", "(I)C"⟩ : MethodName)) (z := (⟨"java/lang/String", "charAt", "(I)C"⟩ : MethodName)) hown (mvT hZ (ow hw 48 rfl)) (mvT hZ (ow hw 49 rfl)) (notFace_of_selects (args := #[]) (mvT hZ (ow hw 51 rfl))) (mvT hZ (ow hw 51 rfl)) (mvT hZ (ow hw 50 rfl)) (by decide) (StrChars.Road.chN (W := 0) hZ (own_wC hw) (ow hw 6 rfl) ((((Ex.ext E149).keep K150).keep K219).keep K254) y257 y258 y259 cod r16 (SC.ext y256.2) hz (SF.ext y256.2) hfm (i := ld + 1 + 5) (by rw [own_lenC]; omega) (by rw [own_lenC]; simp only [own_enc, List.length_cons, List.length_nil]; omega) rfl (by decide) (by decide)) q272a q272c (g := (mkF m 125 #[.val (.ref x), .val (.int (Int32.ofNat (Q + 1))), .val (.int (Int32.ofNat (ld + 1 + 5))), .val (.ref b149), .val (.int (92 : Int32))] [(.int (Int32.ofNat (ld + 1 + 5))), (.ref x)])) rfl hml.symm (Steps.refl _) (argsL := [(.int (Int32.ofNat (ld + 1 + 5)))]) (rest := []) (lenOf pd_11 rfl) rfl (o_mr rfl) (hb hby (od dB8 65 rfl)) (fun _ _ => ⟨rfl, e271, (by decide : 2 + 0 ≤ _), (by decide : 20 + 0 ≤ _)⟩)
                      dsimp only [Pt.U, Pt.locs, Pt.cells, Pt.slots] at X272 l272 y272 z272 st272 hQ272
                      replace l272 := l272.symm; replace y272 := y272.symm; replace z272 := z272.symm; subst l272 y272 z272
                      obtain ⟨rfl, rfl, e272⟩ := hQ272
                      have N272 := Fr.app N271 (Fr.nil n0)
                      rw [vc272] at st272
                      refine own_via st272 ?_
                      show own_Fin p e below _ (T272.setTop (mkF m 128 #[.val (.ref x), .val (.int (Int32.ofNat (Q + 1))), .val (.int (Int32.ofNat (ld + 1 + 5))), .val (.ref b149), .val (.int (92 : Int32))] [(.int c2)]))
                      refine o_go X272 H (od dB8 66 rfl) (pc' := 132) (by decide) (by decide) ?_
                      refine o_ist X272 H (od dB8 68 rfl) (L' := #[.val (.ref x), .val (.int (Int32.ofNat (Q + 1))), .val (.int (Int32.ofNat (ld + 1 + 5))), .val (.ref b149), .val (.int c2)]) rfl ?_
                      refine own_merge (B := (T272.setTop (mkF m 188 #[.val (.ref x), .val (.int (Int32.ofNat (Q + 1))), .val (.int (Int32.ofNat (ld + 1 + 5))), .val (.ref b149), .val (.int c2)] []))) ?_ (fun HM => ?_)
                      · show own_Fin p e below _ (T272.setTop (mkF m 188 #[.val (.ref x), .val (.int (Int32.ofNat (Q + 1))), .val (.int (Int32.ofNat (ld + 1 + 5))), .val (.ref b149), .val (.int c2)] []))
                        refine o_aldN X272 H (od dB8 93 rfl) rfl rfl ?_
                        refine o_ild X272 H (od dB8 94 rfl) rfl ?_
                        refine o_vs (argsL := [(.int c2)]) (rest := []) X272 H hml hZ hown (ow hw 143 rfl) (ow hw 144 rfl) (ow hw 146 rfl) (ow hw 145 rfl) (backOf (W := 0) (rmPb2 l Z a0 hw [] b149 c2 z tb150 kt150 c0 c1 T254.heap n0 (by exact (Nat.le_trans (Nat.le_trans (Nat.le_trans (Nat.le_trans Z0 E149.1) K150.1) K219.1) K254.1)) hz y256 SC Eq254 Vq254 Cq254 Dq254 Aq254 gn149 gt150 ne150_b149 (own_u255 u2)) hZ (ow hw 147 rfl) (ow hw 72 rfl) (by decide) (by decide)) (by decide) Eq254 e272 pd_14 (od dB8 95 rfl) rfl rfl rfl rfl rfl (by decide) (by decide) fun _ T273 Lc273 X273 hQ273 => ?_
                        obtain ⟨rfl, N273q, K273, Eq273, Vq273, Cq273, Dq273, Aq273⟩ := hQ273
                        have N273 := Fr.app N272 N273q
                        have y274 := (y255.trans K273 (allS (Or.inr gk149) (allS (Or.inr (Nat.le_trans ((Keep.refl h0 []).ext E149).1 gk150)) all0)))
                        have y275 := (Nat.le_trans (Nat.le_trans (Nat.le_trans (Nat.le_trans (Nat.le_trans Z0 E149.1) K150.1) K219.1) K254.1) K273.1)
                        show own_Fin p e below _ (T273.setTop (mkF m 194 #[.val (.ref x), .val (.int (Int32.ofNat (Q + 1))), .val (.int (Int32.ofNat (ld + 1 + 5))), .val (.ref b149), .val (.int c2)] [(.ref b149)]))
                        refine o_pop X273 H (od dB8 96 rfl) rfl ?_
                        refine own_on (fun tq => XS.iinc X273.here hx rfl (hb hby (od dB8 97 rfl)) rfl (l' := #[.val (.ref x), .val (.int (Int32.ofNat (Q + 1))), .val (.int ((Int32.ofNat (ld + 1 + 5)) + (1 : Int32))), .val (.ref b149), .val (.int c2)]) rfl) ?_
                        show own_Fin p e below _ (T273.setTop (mkF m 198 #[.val (.ref x), .val (.int (Int32.ofNat (Q + 1))), .val (.int ((Int32.ofNat (ld + 1 + 5)) + (1 : Int32))), .val (.ref b149), .val (.int c2)] []))
                        refine o_go X273 H (od dB8 98 rfl) (pc' := 86) (by decide) (by decide) ?_
                        rw [own_inc]
                        show own_Fin p e below _ (T273.setTop (mkF m 86 #[.val (.ref x), .val (.int (Int32.ofNat (Q + 1))), .val (.int (Int32.ofNat (ld + 1 + 6))), .val (.ref b149), .val (.int c2)] []))
                        rcases es2 with _ | ⟨⟨b3, c3⟩, es3⟩
                        · have hP : Q = ld + 1 + 6 := by rw [hQ]; simp only [own_enc, List.length_cons, List.length_nil]
                          show own_Fin p e below _ (T273.setTop (mkF m 86 #[.val (.ref x), .val (.int (Int32.ofNat (Q + 1))), .val (.int (Int32.ofNat (ld + 1 + 6))), .val (.ref b149), .val (.int c2)] []))
                          refine o_ildN X273 H (od dB8 44 rfl) rfl ?_
                          refine o_ildN X273 H (od dB8 45 rfl) rfl ?_
                          refine o_icN X273 H (od dB8 46 rfl) (tlt (own_olt (by omega) (by omega))).2.1 ?_
                          refine o_aldN X273 H (od dB8 47 rfl) rfl rfl ?_
                          refine o_ildN X273 H (od dB8 48 rfl) rfl ?_
                          have vc276 : (own_cs ld ((true, c0) :: (true, c1) :: (true, c2) :: []) tl).getD (ld + 1 + 6) 0 = (34 : Int32) := (own_mid _ _ _ _).trans rfl
                          obtain ⟨cq276, kq276, q276a, q276b, q276c⟩ := isOf hZ rfl (((((Ex.ext E149).keep K150).keep K219).keep K254).keep K273)
                          obtain ⟨_, _, ⟨T276, L276, k276, n276⟩, -, X276, ⟨Lc276, hQ276, l276, y276, z276⟩, st276⟩ := X273.virtualBack hx (y := (⟨"java/lang/String", "charAt", "(I)C"⟩ : MethodName)) (z := (⟨"java/lang/String", "charAt", "(I)C"⟩ : MethodName)) hown (mvT hZ (ow hw 48 rfl)) (mvT hZ (ow hw 49 rfl)) (notFace_of_selects (args := #[]) (mvT hZ (ow hw 51 rfl))) (mvT hZ (ow hw 51 rfl)) (mvT hZ (ow hw 50 rfl)) (by decide) (StrChars.Road.chN (W := 0) hZ (own_wC hw) (ow hw 6 rfl) (((((Ex.ext E149).keep K150).keep K219).keep K254).keep K273) (y257.keep K273 (ninS ne149_x (ninS ne150_x nin0))) (y258.keep K273 (ninS ne149_x (ninS ne150_x nin0))) (y259.keep K273 (ninS ne149_tx (ninS ne150_tx nin0))) cod r16 (SC.ext (y256.keep K273 (allS gn149 (allS gt150 all0))).2) hz (SF.ext (y256.keep K273 (allS gn149 (allS gt150 all0))).2) hfm (i := ld + 1 + 6) (by rw [own_lenC]; omega) (by rw [own_lenC]; simp only [own_enc, List.length_cons, List.length_nil]; omega) rfl (by decide) (by decide)) q276a q276c (g := (mkF m 93 #[.val (.ref x), .val (.int (Int32.ofNat (Q + 1))), .val (.int (Int32.ofNat (ld + 1 + 6))), .val (.ref b149), .val (.int c2)] [(.int (Int32.ofNat (ld + 1 + 6))), (.ref x)])) rfl hml.symm (Steps.refl _) (argsL := [(.int (Int32.ofNat (ld + 1 + 6)))]) (rest := []) (lenOf pd_11 rfl) rfl (o_mr rfl) (hb hby (od dB8 49 rfl)) (fun _ _ => ⟨rfl, rfl, (by decide : 2 + 0 ≤ _), (by decide : 20 + 0 ≤ _)⟩)
                          dsimp only [Pt.U, Pt.locs, Pt.cells, Pt.slots] at X276 l276 y276 z276 st276 hQ276
                          replace l276 := l276.symm; replace y276 := y276.symm; replace z276 := z276.symm; subst l276 y276 z276
                          obtain ⟨rfl, rfl, e276⟩ := hQ276
                          have N276 := Fr.app N273 (Fr.nil n0)
                          rw [vc276] at st276
                          refine own_via st276 ?_
                          show own_Fin p e below _ (T276.setTop (mkF m 96 #[.val (.ref x), .val (.int (Int32.ofNat (Q + 1))), .val (.int (Int32.ofNat (ld + 1 + 6))), .val (.ref b149), .val (.int c2)] [(.int (34 : Int32))]))
                          refine o_bi X276 H (od dB8 50 rfl) (v := 34) rfl ?_
                          refine o_icY X276 H (od dB8 51 rfl) (teq (by decide : (34 : Int32) = (34 : Int32))).1 (pc' := 201) (by decide) (by decide) ?_
                          refine o_ildN X276 H (od dB8 99 rfl) rfl ?_
                          refine o_ildN X276 H (od dB8 100 rfl) rfl ?_
                          refine o_ic X276 H (od dB8 101 rfl) (v := 1) rfl ?_
                          refine o_isub X276 H (od dB8 102 rfl) ?_
                          rw [own_sub1]
                          show own_Fin p e below _ (T276.setTop (mkF m 205 #[.val (.ref x), .val (.int (Int32.ofNat (Q + 1))), .val (.int (Int32.ofNat (ld + 1 + 6))), .val (.ref b149), .val (.int c2)] [(.int (Int32.ofNat Q)), (.int (Int32.ofNat (ld + 1 + 6)))]))
                          refine o_icY X276 H (od dB8 103 rfl) (teq (congrArg Int32.ofNat hP.symm)).1 (pc' := 218) (by decide) (by decide) ?_
                          refine o_aldN X276 H (od dB8 109 rfl) rfl rfl ?_
                          refine o_vs (argsL := []) (rest := []) X276 H hml hZ hown (ow hw 88 rfl) (ow hw 89 rfl) (ow hw 91 rfl) (ow hw 90 rfl) (backOf (W := 0) (rmTs3 l Z a0 hw [] b149 z tb150 kt150 c0 c1 c2 T273.heap n0 (by exact y275) hz (y256.keep K273 (allS gn149 (allS gt150 all0))) SC Eq273 Vq273 Cq273 Dq273 Aq273 gn149 gt150 ne150_b149) hZ (ow hw 92 rfl) (ow hw 72 rfl) (by decide) (by decide)) (by decide) Eq273 e276 pd_13 (od dB8 110 rfl) rfl rfl rfl rfl rfl (by decide) (by decide) fun _ T277 Lc277 X277 hQ277 => ?_
                          obtain ⟨y277s, x277, kx277, rfl, N277q, K277, gk277, Eq277, Cq277, Vq277, Aq277⟩ := hQ277
                          have N277 := Fr.app N276 N277q
                          show own_Fin p e below _ (T277.setTop (mkF m 222 #[.val (.ref x), .val (.int (Int32.ofNat (Q + 1))), .val (.int (Int32.ofNat (ld + 1 + 6))), .val (.ref b149), .val (.int c2)] [(.ref y277s)]))
                          exact own_ret (t := (.object "java/lang/String")) X277 hx hlk hret rfl (Or.inr (Or.inr (Or.inr (Or.inr ⟨rfl, rfl, rfl⟩)))) (hb hby (od dB8 111 rfl)) (by show Q8 Z x z fm tx kx ld tl ((true, c0) :: (true, c1) :: (true, c2) :: []) N2 vs h0 n0 _ T277.heap _; exact ⟨y277s, x277, kx277, rfl, N277, (y274.trans K277 all0), Eq277, Cq277, Vq277, Aq277⟩) (by decide) (by decide)
                        · exact absurd hes (by simp)
                      · show own_Fin p e below _ (T272.setTop (mkF m 134 #[.val (.ref x), .val (.int (Int32.ofNat (Q + 1))), .val (.int (Int32.ofNat (ld + 1 + 5))), .val (.ref b149), .val (.int c2)] []))
                        refine o_ild X272 H (od dB8 69 rfl) rfl ?_
                        refine o_bi X272 H (od dB8 70 rfl) (v := 34) rfl ?_
                        by_cases hc278 : c2 = (34 : Int32)
                        · refine o_icY X272 H (od dB8 71 rfl) (teq hc278).1 (pc' := 188) (by decide) (by decide) ?_
                          exact HM
                        · refine o_icN X272 H (od dB8 71 rfl) (feq hc278).1 ?_
                          refine o_ild X272 H (od dB8 72 rfl) rfl ?_
                          refine o_bi X272 H (od dB8 73 rfl) (v := 92) rfl ?_
                          refine o_icY X272 H (od dB8 74 rfl) (teq (own_or2 u2 hc278)).1 (pc' := 188) (by decide) (by decide) ?_
                          exact HM
                · show own_Fin p e below _ (T253.setTop (mkF m 134 #[.val (.ref x), .val (.int (Int32.ofNat (Q + 1))), .val (.int (Int32.ofNat (ld + 1 + 3))), .val (.ref b149), .val (.int c1)] []))
                  refine o_ild X253 H (od dB8 69 rfl) rfl ?_
                  refine o_bi X253 H (od dB8 70 rfl) (v := 34) rfl ?_
                  by_cases hc279 : c1 = (34 : Int32)
                  · refine o_icY X253 H (od dB8 71 rfl) (teq hc279).1 (pc' := 188) (by decide) (by decide) ?_
                    exact HM
                  · refine o_icN X253 H (od dB8 71 rfl) (feq hc279).1 ?_
                    refine o_ild X253 H (od dB8 72 rfl) rfl ?_
                    refine o_bi X253 H (od dB8 73 rfl) (v := 92) rfl ?_
                    refine o_icY X253 H (od dB8 74 rfl) (teq (own_or2 u1 hc279)).1 (pc' := 188) (by decide) (by decide) ?_
                    exact HM
          · show own_Fin p e below _ (T218.setTop (mkF m 134 #[.val (.ref x), .val (.int (Int32.ofNat (Q + 1))), .val (.int (Int32.ofNat (ld + 1 + 1))), .val (.ref b149), .val (.int c0)] []))
            refine o_ild X218 H (od dB8 69 rfl) rfl ?_
            refine o_bi X218 H (od dB8 70 rfl) (v := 34) rfl ?_
            by_cases hc280 : c0 = (34 : Int32)
            · refine o_icY X218 H (od dB8 71 rfl) (teq hc280).1 (pc' := 188) (by decide) (by decide) ?_
              exact HM
            · refine o_icN X218 H (od dB8 71 rfl) (feq hc280).1 ?_
              refine o_ild X218 H (od dB8 72 rfl) rfl ?_
              refine o_bi X218 H (od dB8 73 rfl) (v := 92) rfl ?_
              refine o_icY X218 H (od dB8 74 rfl) (teq (own_or2 u0 hc280)).1 (pc' := 188) (by decide) (by decide) ?_
              exact HM
    | succ k2 ih2 =>
      intro eb Xb
      obtain ⟨j, hj⟩ : ∃ j, ld = j + (k2 + 1) := ⟨ld - (k2 + 1), by omega⟩
      rw [show ld - (k2 + 1) = j by omega]
      show own_Fin p e below _ (Tb.setTop (mkF m 29 #[.val (.ref x), .val (.int (Int32.ofNat (Q + 1))), .val (.int (Int32.ofNat j)), .unset, .unset] []))
      refine o_ildN Xb H (od dB8 16 rfl) rfl ?_
      refine o_ildN Xb H (od dB8 17 rfl) rfl ?_
      refine o_icN Xb H (od dB8 18 rfl) (tlt (own_olt (by omega) (by omega))).2.1 ?_
      refine o_aldN Xb H (od dB8 19 rfl) rfl rfl ?_
      refine o_ildN Xb H (od dB8 20 rfl) rfl ?_
      have vc281 : (own_cs ld es tl).getD (j) 0 = (32 : Int32) := own_lead (by omega)
      obtain ⟨cq281, kq281, q281a, q281b, q281c⟩ := isOf hZ eb Ex
      obtain ⟨_, _, ⟨T281, L281, k281, n281⟩, -, X281, ⟨Lc281, hQ281, l281, y281, z281⟩, st281⟩ := Xb.virtualBack hx (y := (⟨"java/lang/String", "charAt", "(I)C"⟩ : MethodName)) (z := (⟨"java/lang/String", "charAt", "(I)C"⟩ : MethodName)) hown (mvT hZ (ow hw 48 rfl)) (mvT hZ (ow hw 49 rfl)) (notFace_of_selects (args := #[]) (mvT hZ (ow hw 51 rfl))) (mvT hZ (ow hw 51 rfl)) (mvT hZ (ow hw 50 rfl)) (by decide) (StrChars.Road.chN (W := 0) hZ (own_wC hw) (ow hw 6 rfl) Ex Vx Cx Kx cod r16 (SC.ext O.2) hz (SF.ext O.2) hfm (i := j) (by rw [own_lenC]; omega) (by rw [own_lenC]; omega) rfl (by decide) (by decide)) q281a q281c (g := (mkF m 36 #[.val (.ref x), .val (.int (Int32.ofNat (Q + 1))), .val (.int (Int32.ofNat j)), .unset, .unset] [(.int (Int32.ofNat j)), (.ref x)])) rfl hml.symm (Steps.refl _) (argsL := [(.int (Int32.ofNat j))]) (rest := []) (lenOf pd_11 rfl) rfl (o_mr rfl) (hb hby (od dB8 21 rfl)) (fun _ _ => ⟨rfl, eb, (by decide : 0 + 0 ≤ _), (by decide : 0 + 0 ≤ _)⟩)
      dsimp only [Pt.U, Pt.locs, Pt.cells, Pt.slots] at X281 l281 y281 z281 st281 hQ281
      replace l281 := l281.symm; replace y281 := y281.symm; replace z281 := z281.symm; subst l281 y281 z281
      obtain ⟨rfl, rfl, e281⟩ := hQ281
      have N281 := Fr.app N146 (Fr.nil n0)
      rw [vc281] at st281
      refine own_via st281 ?_
      show own_Fin p e below _ (T281.setTop (mkF m 39 #[.val (.ref x), .val (.int (Int32.ofNat (Q + 1))), .val (.int (Int32.ofNat j)), .unset, .unset] [(.int (32 : Int32))]))
      refine o_bi X281 H (od dB8 22 rfl) (v := 32) rfl ?_
      refine o_icN X281 H (od dB8 23 rfl) (teq (by decide : (32 : Int32) = (32 : Int32))).2 ?_
      refine own_on (fun tq => XS.iinc X281.here hx rfl (hb hby (od dB8 24 rfl)) rfl (l' := #[.val (.ref x), .val (.int (Int32.ofNat (Q + 1))), .val (.int ((Int32.ofNat j) + (1 : Int32))), .unset, .unset]) rfl) ?_
      show own_Fin p e below _ (T281.setTop (mkF m 47 #[.val (.ref x), .val (.int (Int32.ofNat (Q + 1))), .val (.int ((Int32.ofNat j) + (1 : Int32))), .unset, .unset] []))
      rw [own_inc]
      show own_Fin p e below _ (T281.setTop (mkF m 47 #[.val (.ref x), .val (.int (Int32.ofNat (Q + 1))), .val (.int (Int32.ofNat (j + 1))), .unset, .unset] []))
      refine o_go X281 H (od dB8 25 rfl) (pc' := 29) (by decide) (by decide) ?_
      rw [show j + 1 = ld - k2 by omega]
      exact ih2 (Nat.le_of_succ_le hk1) _ e281 X281
  | succ k ih =>
    intro ea Xa
    show own_Fin p e below _ (Ta.setTop (mkF m 5 #[.val (.ref x), .val (.int (Int32.ofNat (Q + 1 + k + 1))), .unset, .unset, .unset] []))
    refine o_ildN Xa H (od dB8 3 rfl) rfl ?_
    refine o_ifN Xa H (od dB8 4 rfl) ((if0 _ _).trans (tlt (own_opos (by omega) (by omega))).2.2.2) ?_
    refine o_aldN Xa H (od dB8 5 rfl) rfl rfl ?_
    refine o_ildN Xa H (od dB8 6 rfl) rfl ?_
    refine o_ic Xa H (od dB8 7 rfl) (v := 1) rfl ?_
    refine o_isub Xa H (od dB8 8 rfl) ?_
    rw [own_sub1]
    show own_Fin p e below _ (Ta.setTop (mkF m 13 #[.val (.ref x), .val (.int (Int32.ofNat (Q + 1 + k + 1))), .unset, .unset, .unset] [(.int (Int32.ofNat (Q + 1 + k))), (.ref x)]))
    have vc282 : (own_cs ld es tl).getD (Q + 1 + k) 0 = (32 : Int32) := own_tailc hQ hk0
    obtain ⟨cq282, kq282, q282a, q282b, q282c⟩ := isOf hZ ea Ex
    obtain ⟨_, _, ⟨T282, L282, k282, n282⟩, -, X282, ⟨Lc282, hQ282, l282, y282, z282⟩, st282⟩ := Xa.virtualBack hx (y := (⟨"java/lang/String", "charAt", "(I)C"⟩ : MethodName)) (z := (⟨"java/lang/String", "charAt", "(I)C"⟩ : MethodName)) hown (mvT hZ (ow hw 48 rfl)) (mvT hZ (ow hw 49 rfl)) (notFace_of_selects (args := #[]) (mvT hZ (ow hw 51 rfl))) (mvT hZ (ow hw 51 rfl)) (mvT hZ (ow hw 50 rfl)) (by decide) (StrChars.Road.chN (W := 0) hZ (own_wC hw) (ow hw 6 rfl) Ex Vx Cx Kx cod r16 (SC.ext O.2) hz (SF.ext O.2) hfm (i := Q + 1 + k) (by rw [own_lenC]; omega) (by rw [own_lenC]; omega) rfl (by decide) (by decide)) q282a q282c (g := (mkF m 13 #[.val (.ref x), .val (.int (Int32.ofNat (Q + 1 + k + 1))), .unset, .unset, .unset] [(.int (Int32.ofNat (Q + 1 + k))), (.ref x)])) rfl hml.symm (Steps.refl _) (argsL := [(.int (Int32.ofNat (Q + 1 + k)))]) (rest := []) (lenOf pd_11 rfl) rfl (o_mr rfl) (hb hby (od dB8 9 rfl)) (fun _ _ => ⟨rfl, ea, (by decide : 0 + 0 ≤ _), (by decide : 0 + 0 ≤ _)⟩)
    dsimp only [Pt.U, Pt.locs, Pt.cells, Pt.slots] at X282 l282 y282 z282 st282 hQ282
    replace l282 := l282.symm; replace y282 := y282.symm; replace z282 := z282.symm; subst l282 y282 z282
    obtain ⟨rfl, rfl, e282⟩ := hQ282
    have N282 := Fr.app N145 (Fr.nil n0)
    rw [vc282] at st282
    refine own_via st282 ?_
    show own_Fin p e below _ (T282.setTop (mkF m 16 #[.val (.ref x), .val (.int (Int32.ofNat (Q + 1 + k + 1))), .unset, .unset, .unset] [(.int (32 : Int32))]))
    refine o_bi X282 H (od dB8 10 rfl) (v := 32) rfl ?_
    refine o_icN X282 H (od dB8 11 rfl) (teq (by decide : (32 : Int32) = (32 : Int32))).2 ?_
    refine own_on (fun tq => XS.iinc X282.here hx rfl (hb hby (od dB8 12 rfl)) rfl (l' := #[.val (.ref x), .val (.int ((Int32.ofNat (Q + 1 + k + 1)) + (-1 : Int32))), .unset, .unset, .unset]) rfl) ?_
    show own_Fin p e below _ (T282.setTop (mkF m 24 #[.val (.ref x), .val (.int ((Int32.ofNat (Q + 1 + k + 1)) + (-1 : Int32))), .unset, .unset, .unset] []))
    rw [own_dec]
    show own_Fin p e below _ (T282.setTop (mkF m 24 #[.val (.ref x), .val (.int (Int32.ofNat (Q + 1 + k))), .unset, .unset, .unset] []))
    refine o_go X282 H (od dB8 13 rfl) (pc' := 5) (by decide) (by decide) ?_
    exact ih (Nat.le_of_succ_le hk0) _ e282 X282
theorem pn_6 : plainName "com/example/tidelock/tidelock/server/StructuredFieldsStringPinLaw" = true := by first | (simp [plainName, overriddenIn]; done) | decide +kernel
theorem dB1 : oL method_2_code [(0, .iload_n 0, 1), (1, .iconst 3, 1), (2, .iand, 1), (3, .istore_n 1, 1), (4, .iload_n 1, 1), (5, .iconst 1, 1), (6, .if_icmp .ne 6, 3), (9, .bipush 34, 2), (11, .ireturn, 1), (12, .iload_n 1, 1), (13, .iconst 2, 1), (14, .if_icmp .ne 6, 3), (17, .bipush 92, 2), (19, .ireturn, 1), (20, .bipush 32, 2), (22, .iload_n 0, 1), (23, .iconst 2, 1), (24, .iushr, 1), (25, .bipush 95, 2), (27, .irem, 1), (28, .iadd, 1), (29, .i2c, 1), (30, .ireturn, 1)] := by unfold oL; decide +kernel
theorem ef_rm1 (m : MethodId) (x0 : Int32) : entryFrame m #[(.int x0)] 2 = mkF m 0 #[.val (.int x0), .unset] [] := by first | (simp [entryFrame, mkF, argsToLocals, Value.category]; done) | rfl
def Q1 (Z : State) (q1 : Int32) (h0 : Heap) (n0 : Nat) (v : Option Value) (h : Heap) (L : List Loc) : Prop := ∃ c : Int32, v = some (.int c) ∧ Fr n0 L ∧ h = h0 ∧ own_ch c
set_option maxRecDepth 65536 in
set_option maxHeartbeats 40000000 in
theorem rm1 (l : Launch) (Z : State) (a0 : Array Value) (hw : ∀ d ∈ tables_1, d.before a0 Z = true) (ws : List Jvm.Cond) (q1 : Int32) (h0 : Heap) (n0 : Nat) (Z0 : n0 ≤ h0.size) :
    own_M l (⟨"com/example/tidelock/tidelock/server/StructuredFieldsStringPinLaw", "unitChar", "(I)C"⟩ : MethodName) method_2_code 2 (some .char) ws ({ frames := 0, cells := 0, slots := 0, locals := 0 } : Room) #[(.int q1)] Z h0 (Q1 Z q1 h0 n0) := by
  refine MetFree.of_bodySF (plainFor_of_name pn_6) hisR ?_
  intro p e s m args below meth cd s₁ Bd hml hP hK
  obtain ⟨rfl, hZ, hh⟩ := hP
  obtain ⟨X0, e0, H, hlk, hown, hret⟩ := own_start (R := ({ frames := 0, cells := 0, slots := 0, locals := 0 } : Room)) Bd hh rfl
  have hx := H.1; have hby := H.2; have N0 := Fr.nil n0
  show own_Fin p e below (own_Ans s (Q1 Z q1 h0 n0) ({ frames := 0, cells := 0, slots := 0, locals := 0 } : Room).cells ({ frames := 0, cells := 0, slots := 0, locals := 0 } : Room).slots) (s₁.setTop (entryFrame m #[(.int q1)] 2))
  refine own_cast (ef_rm1 m q1) ?_
  show own_Fin p e below _ (s₁.setTop (mkF m 0 #[.val (.int q1), .unset] []))
  refine o_ildN X0 H (od dB1 0 rfl) rfl ?_
  refine o_ic X0 H (od dB1 1 rfl) (v := 3) rfl ?_
  refine o_iand X0 H (od dB1 2 rfl) ?_
  refine o_istN X0 H (od dB1 3 rfl) (L' := #[.val (.int q1), .val (.int (q1 &&& (3 : Int32)))]) rfl ?_
  refine o_ildN X0 H (od dB1 4 rfl) rfl ?_
  refine o_ic X0 H (od dB1 5 rfl) (v := 1) rfl ?_
  by_cases hc283 : (q1 &&& (3 : Int32)) = (1 : Int32)
  · refine o_icN X0 H (od dB1 6 rfl) (teq hc283).2 ?_
    refine o_bi X0 H (od dB1 7 rfl) (v := 34) rfl ?_
    exact own_ret (t := .char) X0 hx hlk hret rfl (Or.inl ⟨rfl, (by simp), _, rfl⟩) (hb hby (od dB1 8 rfl)) (⟨_, rfl, N0, e0, (own_chl (Or.inl rfl))⟩) (by decide) (by decide)
  · refine o_icY X0 H (od dB1 6 rfl) (feq hc283).2 (pc' := 12) (by decide) (by decide) ?_
    refine o_ildN X0 H (od dB1 9 rfl) rfl ?_
    refine o_ic X0 H (od dB1 10 rfl) (v := 2) rfl ?_
    by_cases hc284 : (q1 &&& (3 : Int32)) = (2 : Int32)
    · refine o_icN X0 H (od dB1 11 rfl) (teq hc284).2 ?_
      refine o_bi X0 H (od dB1 12 rfl) (v := 92) rfl ?_
      exact own_ret (t := .char) X0 hx hlk hret rfl (Or.inl ⟨rfl, (by simp), _, rfl⟩) (hb hby (od dB1 13 rfl)) (⟨_, rfl, N0, e0, (own_chl (Or.inr rfl))⟩) (by decide) (by decide)
    · refine o_icY X0 H (od dB1 11 rfl) (feq hc284).2 (pc' := 20) (by decide) (by decide) ?_
      refine o_bi X0 H (od dB1 14 rfl) (v := 32) rfl ?_
      refine o_ildN X0 H (od dB1 15 rfl) rfl ?_
      refine o_ic X0 H (od dB1 16 rfl) (v := 2) rfl ?_
      refine own_on (fun tq => XS.iushr X0.here hx rfl (hb hby (od dB1 17 rfl)) rfl) ?_
      show own_Fin p e below _ (s₁.setTop (mkF m 25 #[.val (.int q1), .val (.int (q1 &&& (3 : Int32)))] [(.int ((q1.toUInt32 >>> ((2 : Int32) &&& 31).toUInt32).toInt32)), (.int (32 : Int32))]))
      refine o_bi X0 H (od dB1 18 rfl) (v := 95) rfl ?_
      refine own_on (fun tq => iremM X0 hx rfl (hb hby (od dB1 19 rfl)) rfl (by decide)) ?_
      show own_Fin p e below _ (s₁.setTop (mkF m 28 #[.val (.int q1), .val (.int (q1 &&& (3 : Int32)))] [(.int (((q1.toUInt32 >>> ((2 : Int32) &&& 31).toUInt32).toInt32) % (95 : Int32))), (.int (32 : Int32))]))
      refine o_iadd X0 H (od dB1 20 rfl) ?_
      refine own_on (fun tq => XS.i2c X0.here hx rfl (hb hby (od dB1 21 rfl)) rfl) ?_
      show own_Fin p e below _ (s₁.setTop (mkF m 30 #[.val (.int q1), .val (.int (q1 &&& (3 : Int32)))] [(.int (((32 : Int32) + (((q1.toUInt32 >>> ((2 : Int32) &&& 31).toUInt32).toInt32) % (95 : Int32))).toUInt32.toUInt16.toUInt32.toInt32))]))
      exact own_ret (t := .char) X0 hx hlk hret (congrArg Value.int (own_narc (own_u255 (own_uc q1)))) (Or.inl ⟨rfl, (by simp), _, rfl⟩) (hb hby (od dB1 22 rfl)) (⟨_, rfl, N0, e0, (own_uc q1)⟩) (by decide) (by decide)
theorem dB29 : oL method_3_code [(0, .iload_n 2, 1), (1, .bipush 34, 2), (3, .if_icmp .eq 9, 3), (6, .iload_n 2, 1), (7, .bipush 92, 2), (9, .if_icmp .ne 18, 3), (12, .aload_n 0, 1), (13, .iload_n 1, 1), (14, .bipush 92, 2), (16, .castore, 1), (17, .aload_n 0, 1), (18, .iload_n 1, 1), (19, .iconst 1, 1), (20, .iadd, 1), (21, .iload_n 2, 1), (22, .castore, 1), (23, .iload_n 1, 1), (24, .iconst 2, 1), (25, .iadd, 1), (26, .ireturn, 1), (27, .aload_n 0, 1), (28, .iload_n 1, 1), (29, .iload_n 2, 1), (30, .castore, 1), (31, .iload_n 1, 1), (32, .iconst 1, 1), (33, .iadd, 1), (34, .ireturn, 1)] := by unfold oL; decide +kernel
theorem ef_rm29 (m : MethodId) (x0 : Addr) (x1 : Int32) (x2 : Int32) : entryFrame m #[(.ref x0), (.int x1), (.int x2)] 3 = mkF m 0 #[.val (.ref x0), .val (.int x1), .val (.int x2)] [] := by first | (simp [entryFrame, mkF, argsToLocals, Value.category]; done) | rfl
def Q29 (Z : State) (a : Addr) (c : Int32) (ka : ClassId) (jn : Nat) (cs : List Int32) (h0 : Heap) (n0 : Nat) (v : Option Value) (h : Heap) (L : List Loc) : Prop := v = some (.int (Int32.ofNat (jn + own_w c))) ∧ Fr n0 L ∧ Keep h0 h [a] ∧ Arv Z h a ka .char (11 : Int32) ((own_put cs jn c).map Value.int) (.int 0)
set_option maxRecDepth 65536 in
set_option maxHeartbeats 40000000 in
theorem rm29 (l : Launch) (Z : State) (a0 : Array Value) (hw : ∀ d ∈ tables_1, d.before a0 Z = true) (ws : List Jvm.Cond) (a : Addr) (c : Int32) (ka : ClassId) (jn : Nat) (cs : List Int32) (h0 : Heap) (n0 : Nat) (Z0 : n0 ≤ h0.size) (Aa : Arv Z h0 a ka .char (11 : Int32) (cs.map Value.int) (.int 0)) (ga : n0 ≤ a) (hj : jn + 1 < 11) (hcs : cs.length = 11) (rc : ¬ c < 0 ∧ ¬ (255 : Int32) < c) :
    own_M l (⟨"com/example/tidelock/tidelock/server/StructuredFieldsStringPinLaw", "put", "([CIC)I"⟩ : MethodName) method_3_code 3 (some .int) ws ({ frames := 0, cells := 0, slots := 0, locals := 0 } : Room) #[(.ref a), (.int (Int32.ofNat jn)), (.int c)] Z h0 (Q29 Z a c ka jn cs h0 n0) := by
  refine MetFree.of_bodySF (plainFor_of_name pn_6) hisR ?_
  intro p e s m args below meth cd s₁ Bd hml hP hK
  obtain ⟨rfl, hZ, hh⟩ := hP
  obtain ⟨X0, e0, H, hlk, hown, hret⟩ := own_start (R := ({ frames := 0, cells := 0, slots := 0, locals := 0 } : Room)) Bd hh rfl
  have hx := H.1; have hby := H.2; have N0 := Fr.nil n0
  show own_Fin p e below (own_Ans s (Q29 Z a c ka jn cs h0 n0) ({ frames := 0, cells := 0, slots := 0, locals := 0 } : Room).cells ({ frames := 0, cells := 0, slots := 0, locals := 0 } : Room).slots) (s₁.setTop (entryFrame m #[(.ref a), (.int (Int32.ofNat jn)), (.int c)] 3))
  refine own_cast (ef_rm29 m a (Int32.ofNat jn) c) ?_
  show own_Fin p e below _ (s₁.setTop (mkF m 0 #[.val (.ref a), .val (.int (Int32.ofNat jn)), .val (.int c)] []))
  refine o_ildN X0 H (od dB29 0 rfl) rfl ?_
  refine o_bi X0 H (od dB29 1 rfl) (v := 34) rfl ?_
  by_cases hc285 : c = (34 : Int32)
  · refine o_icY X0 H (od dB29 2 rfl) (teq hc285).1 (pc' := 12) (by decide) (by decide) ?_
    refine o_aldN X0 H (od dB29 6 rfl) rfl rfl ?_
    refine o_ildN X0 H (od dB29 7 rfl) rfl ?_
    refine o_bi X0 H (od dB29 8 rfl) (v := 92) rfl ?_
    have cp286 : Arv Z h0 a ka .char (11 : Int32) ((cs).map Value.int) (.int 0) := Aa
    obtain ⟨cl286, Ar286, q286, S286, G286, H286, F286⟩ := cp286
    have hin286 : ¬ ((Int32.ofNat jn) < 0 ∨ cl286.slots.size ≤ ((Int32.ofNat jn)).toNatClampNeg) := inb_of S286 (own_inr (by omega))
    obtain ⟨T286, h286, X286, e286, W286, st286⟩ := stC X0 hx hZ e0 Ar286 (j := (Int32.ofNat jn)) hin286 (g := (mkF m 16 #[.val (.ref a), .val (.int (Int32.ofNat jn)), .val (.int c)] [(.int (92 : Int32)), (.int (Int32.ofNat jn)), (.ref a)])) rfl rfl (hb hby (od dB29 9 rfl))
    have V286 : Arv Z h286 a ka .char (11 : Int32) (((cs).set (jn) 92).map Value.int) (.int 0) := by rw [List.map_set]; have q := Arv.set Ar286 q286 S286 G286 H286 F286 (fits_nar_char _) W286 (jn) (own_clamp (by omega)) (by rw [List.length_map, hcs]; omega); rw [own_narc (by decide : ¬ (92 : Int32) < 0 ∧ ¬ (255 : Int32) < 92)] at q; exact q
    have N286 := Fr.snoc X286 N0 ga
    refine own_on st286 ?_
    show own_Fin p e below _ (T286.setTop (mkF m 17 #[.val (.ref a), .val (.int (Int32.ofNat jn)), .val (.int c)] []))
    refine o_aldN X286 H (od dB29 10 rfl) rfl rfl ?_
    refine o_ildN X286 H (od dB29 11 rfl) rfl ?_
    refine o_ic X286 H (od dB29 12 rfl) (v := 1) rfl ?_
    refine o_iadd X286 H (od dB29 13 rfl) ?_
    rw [own_inc]
    show own_Fin p e below _ (T286.setTop (mkF m 21 #[.val (.ref a), .val (.int (Int32.ofNat jn)), .val (.int c)] [(.int (Int32.ofNat (jn + 1))), (.ref a)]))
    refine o_ildN X286 H (od dB29 14 rfl) rfl ?_
    have cp287 : Arv Z h286 a ka .char (11 : Int32) (((cs).set (jn) 92).map Value.int) (.int 0) := V286
    obtain ⟨cl287, Ar287, q287, S287, G287, H287, F287⟩ := cp287
    have hin287 : ¬ ((Int32.ofNat (jn + 1)) < 0 ∨ cl287.slots.size ≤ ((Int32.ofNat (jn + 1))).toNatClampNeg) := inb_of S287 (own_inr (by omega))
    obtain ⟨T287, h287, X287, e287, W287, st287⟩ := stC X286 hx hZ e286 Ar287 (j := (Int32.ofNat (jn + 1))) hin287 (g := (mkF m 22 #[.val (.ref a), .val (.int (Int32.ofNat jn)), .val (.int c)] [(.int c), (.int (Int32.ofNat (jn + 1))), (.ref a)])) rfl rfl (hb hby (od dB29 15 rfl))
    have V287 : Arv Z h287 a ka .char (11 : Int32) ((((cs).set (jn) 92).set (jn + 1) c).map Value.int) (.int 0) := by rw [List.map_set]; have q := Arv.set Ar287 q287 S287 G287 H287 F287 (fits_nar_char _) W287 (jn + 1) (own_clamp (by omega)) (by rw [List.length_map, List.length_set, hcs]; omega); rw [own_narc rc] at q; exact q
    have N287 := Fr.snoc X287 N286 ga
    have y288 := (((Keep.refl h0 [a]).wr W286 (Or.inl (List.mem_of_getElem? (i := 0) rfl))).wr W287 (Or.inl (List.mem_of_getElem? (i := 0) rfl)))
    refine own_on st287 ?_
    show own_Fin p e below _ (T287.setTop (mkF m 23 #[.val (.ref a), .val (.int (Int32.ofNat jn)), .val (.int c)] []))
    refine o_ildN X287 H (od dB29 16 rfl) rfl ?_
    refine o_ic X287 H (od dB29 17 rfl) (v := 2) rfl ?_
    refine o_iadd X287 H (od dB29 18 rfl) ?_
    exact own_ret (t := .int) X287 hx hlk hret rfl (Or.inl ⟨rfl, (by simp), _, rfl⟩) (hb hby (od dB29 19 rfl)) (by show Q29 Z a c ka jn cs h0 n0 _ T287.heap _; rw [e287]; exact ⟨(by rw [own_inc2, own_wt (Or.inl hc285)]), N287, y288, (by rw [own_pt (Or.inl hc285)]; exact V287)⟩) (by decide) (by decide)
  · refine o_icN X0 H (od dB29 2 rfl) (feq hc285).1 ?_
    refine o_ildN X0 H (od dB29 3 rfl) rfl ?_
    refine o_bi X0 H (od dB29 4 rfl) (v := 92) rfl ?_
    by_cases hc289 : c = (92 : Int32)
    · refine o_icN X0 H (od dB29 5 rfl) (teq hc289).2 ?_
      refine o_aldN X0 H (od dB29 6 rfl) rfl rfl ?_
      refine o_ildN X0 H (od dB29 7 rfl) rfl ?_
      refine o_bi X0 H (od dB29 8 rfl) (v := 92) rfl ?_
      have cp290 : Arv Z h0 a ka .char (11 : Int32) ((cs).map Value.int) (.int 0) := Aa
      obtain ⟨cl290, Ar290, q290, S290, G290, H290, F290⟩ := cp290
      have hin290 : ¬ ((Int32.ofNat jn) < 0 ∨ cl290.slots.size ≤ ((Int32.ofNat jn)).toNatClampNeg) := inb_of S290 (own_inr (by omega))
      obtain ⟨T290, h290, X290, e290, W290, st290⟩ := stC X0 hx hZ e0 Ar290 (j := (Int32.ofNat jn)) hin290 (g := (mkF m 16 #[.val (.ref a), .val (.int (Int32.ofNat jn)), .val (.int c)] [(.int (92 : Int32)), (.int (Int32.ofNat jn)), (.ref a)])) rfl rfl (hb hby (od dB29 9 rfl))
      have V290 : Arv Z h290 a ka .char (11 : Int32) (((cs).set (jn) 92).map Value.int) (.int 0) := by rw [List.map_set]; have q := Arv.set Ar290 q290 S290 G290 H290 F290 (fits_nar_char _) W290 (jn) (own_clamp (by omega)) (by rw [List.length_map, hcs]; omega); rw [own_narc (by decide : ¬ (92 : Int32) < 0 ∧ ¬ (255 : Int32) < 92)] at q; exact q
      have N290 := Fr.snoc X290 N0 ga
      refine own_on st290 ?_
      show own_Fin p e below _ (T290.setTop (mkF m 17 #[.val (.ref a), .val (.int (Int32.ofNat jn)), .val (.int c)] []))
      refine o_aldN X290 H (od dB29 10 rfl) rfl rfl ?_
      refine o_ildN X290 H (od dB29 11 rfl) rfl ?_
      refine o_ic X290 H (od dB29 12 rfl) (v := 1) rfl ?_
      refine o_iadd X290 H (od dB29 13 rfl) ?_
      rw [own_inc]
      show own_Fin p e below _ (T290.setTop (mkF m 21 #[.val (.ref a), .val (.int (Int32.ofNat jn)), .val (.int c)] [(.int (Int32.ofNat (jn + 1))), (.ref a)]))
      refine o_ildN X290 H (od dB29 14 rfl) rfl ?_
      have cp291 : Arv Z h290 a ka .char (11 : Int32) (((cs).set (jn) 92).map Value.int) (.int 0) := V290
      obtain ⟨cl291, Ar291, q291, S291, G291, H291, F291⟩ := cp291
      have hin291 : ¬ ((Int32.ofNat (jn + 1)) < 0 ∨ cl291.slots.size ≤ ((Int32.ofNat (jn + 1))).toNatClampNeg) := inb_of S291 (own_inr (by omega))
      obtain ⟨T291, h291, X291, e291, W291, st291⟩ := stC X290 hx hZ e290 Ar291 (j := (Int32.ofNat (jn + 1))) hin291 (g := (mkF m 22 #[.val (.ref a), .val (.int (Int32.ofNat jn)), .val (.int c)] [(.int c), (.int (Int32.ofNat (jn + 1))), (.ref a)])) rfl rfl (hb hby (od dB29 15 rfl))
      have V291 : Arv Z h291 a ka .char (11 : Int32) ((((cs).set (jn) 92).set (jn + 1) c).map Value.int) (.int 0) := by rw [List.map_set]; have q := Arv.set Ar291 q291 S291 G291 H291 F291 (fits_nar_char _) W291 (jn + 1) (own_clamp (by omega)) (by rw [List.length_map, List.length_set, hcs]; omega); rw [own_narc rc] at q; exact q
      have N291 := Fr.snoc X291 N290 ga
      have y292 := (((Keep.refl h0 [a]).wr W290 (Or.inl (List.mem_of_getElem? (i := 0) rfl))).wr W291 (Or.inl (List.mem_of_getElem? (i := 0) rfl)))
      refine own_on st291 ?_
      show own_Fin p e below _ (T291.setTop (mkF m 23 #[.val (.ref a), .val (.int (Int32.ofNat jn)), .val (.int c)] []))
      refine o_ildN X291 H (od dB29 16 rfl) rfl ?_
      refine o_ic X291 H (od dB29 17 rfl) (v := 2) rfl ?_
      refine o_iadd X291 H (od dB29 18 rfl) ?_
      exact own_ret (t := .int) X291 hx hlk hret rfl (Or.inl ⟨rfl, (by simp), _, rfl⟩) (hb hby (od dB29 19 rfl)) (by show Q29 Z a c ka jn cs h0 n0 _ T291.heap _; rw [e291]; exact ⟨(by rw [own_inc2, own_wt (Or.inr hc289)]), N291, y292, (by rw [own_pt (Or.inr hc289)]; exact V291)⟩) (by decide) (by decide)
    · refine o_icY X0 H (od dB29 5 rfl) (feq hc289).2 (pc' := 27) (by decide) (by decide) ?_
      refine o_aldN X0 H (od dB29 20 rfl) rfl rfl ?_
      refine o_ildN X0 H (od dB29 21 rfl) rfl ?_
      refine o_ildN X0 H (od dB29 22 rfl) rfl ?_
      have cp293 : Arv Z h0 a ka .char (11 : Int32) ((cs).map Value.int) (.int 0) := Aa
      obtain ⟨cl293, Ar293, q293, S293, G293, H293, F293⟩ := cp293
      have hin293 : ¬ ((Int32.ofNat jn) < 0 ∨ cl293.slots.size ≤ ((Int32.ofNat jn)).toNatClampNeg) := inb_of S293 (own_inr (by omega))
      obtain ⟨T293, h293, X293, e293, W293, st293⟩ := stC X0 hx hZ e0 Ar293 (j := (Int32.ofNat jn)) hin293 (g := (mkF m 30 #[.val (.ref a), .val (.int (Int32.ofNat jn)), .val (.int c)] [(.int c), (.int (Int32.ofNat jn)), (.ref a)])) rfl rfl (hb hby (od dB29 23 rfl))
      have V293 : Arv Z h293 a ka .char (11 : Int32) (((cs).set (jn) c).map Value.int) (.int 0) := by rw [List.map_set]; have q := Arv.set Ar293 q293 S293 G293 H293 F293 (fits_nar_char _) W293 (jn) (own_clamp (by omega)) (by rw [List.length_map, hcs]; omega); rw [own_narc rc] at q; exact q
      have N293 := Fr.snoc X293 N0 ga
      refine own_on st293 ?_
      show own_Fin p e below _ (T293.setTop (mkF m 31 #[.val (.ref a), .val (.int (Int32.ofNat jn)), .val (.int c)] []))
      refine o_ildN X293 H (od dB29 24 rfl) rfl ?_
      refine o_ic X293 H (od dB29 25 rfl) (v := 1) rfl ?_
      refine o_iadd X293 H (od dB29 26 rfl) ?_
      exact own_ret (t := .int) X293 hx hlk hret rfl (Or.inl ⟨rfl, (by simp), _, rfl⟩) (hb hby (od dB29 27 rfl)) (by show Q29 Z a c ka jn cs h0 n0 _ T293.heap _; rw [e293]; exact ⟨(by rw [own_inc, own_wf hc285 hc289]), N293, ((Keep.refl h0 [a]).wr W293 (Or.inl (List.mem_of_getElem? (i := 0) rfl))), (by rw [own_pf hc285 hc289]; exact V293)⟩) (by decide) (by decide)
theorem pd_15 : parseMethodDescriptor "([C)V" = some ⟨[(.array .char)], none⟩ := by decide +kernel
theorem pd_16 : parseMethodDescriptor "(Ljava/lang/String;)Ljava/lang/String;" = some ⟨[(.object "java/lang/String")], some (.object "java/lang/String")⟩ := by decide +kernel
theorem pd_17 : parseMethodDescriptor "([CIC)I" = some ⟨[(.array .char), .int, .char], some .int⟩ := by decide +kernel
theorem ef_rm0 (m : MethodId) (x0 : Int32) (x1 : Int32) (x2 : Int32) (x3 : Int32) : entryFrame m #[(.int x0), (.int x1), (.int x2), (.int x3)] maxLocals = mkF m 0 #[.val (.int x0), .val (.int x1), .val (.int x2), .val (.int x3), .unset, .unset, .unset, .unset, .unset, .unset, .unset, .unset] [] := by first | (simp [entryFrame, mkF, argsToLocals, Value.category, maxLocals]; done) | rfl
def Q0 (Z : State) (p1 : Int32) (p2 : Int32) (p3 : Int32) (p4 : Int32) (z : Int32) (fm : Value) (h0 : Heap) (n0 : Nat) (v : Option Value) (h : Heap) (L : List Loc) : Prop := v = some (.int 1) ∧ Fr n0 L
set_option maxRecDepth 65536 in
set_option maxHeartbeats 40000000 in
theorem rm0 (l : Launch) (Z : State) (a0 : Array Value) (hw : ∀ d ∈ tables_1, d.before a0 Z = true) (ws : List Jvm.Cond) (p1 : Int32) (p2 : Int32) (p3 : Int32) (p4 : Int32) (z : Int32) (fm : Value) (h0 : Heap) (n0 : Nat) (Z0 : n0 ≤ h0.size) (hz : ¬ z = (0 : Int32)) (O : Old Z n0 h0) (SC : Sta Z Z.heap "java/lang/String" "COMPACT_STRINGS" "Z" (.int z)) (SF : Sta Z Z.heap "jdk/internal/util/Preconditions" "SIOOBE_FORMATTER" "Ljava/util/function/BiFunction;" fm) (hfm : fm.isRef = true) :
    own_M l Jvm.Pilot.@@N@@.x code maxLocals ret ws room_1 #[(.int p1), (.int p2), (.int p3), (.int p4)] Z h0 (Q0 Z p1 p2 p3 p4 z fm h0 n0) := by
  refine MetFree.of_bodySF (plainFor_of_name pn_6) hisR ?_
  intro p e s m args below meth cd s₁ Bd hml hP hK
  obtain ⟨rfl, hZ, hh⟩ := hP
  obtain ⟨X0, e0, H, hlk, hown, hret⟩ := own_start (R := room_1) Bd hh rfl
  have hx := H.1; have hby := H.2; have N0 := Fr.nil n0
  show own_Fin p e below (own_Ans s (Q0 Z p1 p2 p3 p4 z fm h0 n0) room_1.cells room_1.slots) (s₁.setTop (entryFrame m #[(.int p1), (.int p2), (.int p3), (.int p4)] maxLocals))
  refine own_cast (ef_rm0 m p1 p2 p3 p4) ?_
  show own_Fin p e below _ (s₁.setTop (mkF m 0 #[.val (.int p1), .val (.int p2), .val (.int p3), .val (.int p4), .unset, .unset, .unset, .unset, .unset, .unset, .unset, .unset] []))
  refine o_ildN X0 H at_0 rfl ?_
  refine o_ic X0 H at_1 (v := 3) rfl ?_
  refine o_iand X0 H at_2 ?_
  obtain ⟨ld, hld, hl3⟩ := own_and3n p1
  rw [hld]
  show own_Fin p e below _ (s₁.setTop (mkF m 3 #[.val (.int p1), .val (.int p2), .val (.int p3), .val (.int p4), .unset, .unset, .unset, .unset, .unset, .unset, .unset, .unset] [(.int (Int32.ofNat ld))]))
  refine o_ist X0 H at_3 (L' := #[.val (.int p1), .val (.int p2), .val (.int p3), .val (.int p4), .val (.int (Int32.ofNat ld)), .unset, .unset, .unset, .unset, .unset, .unset, .unset]) rfl ?_
  refine o_ildN X0 H at_5 rfl ?_
  refine o_ic X0 H at_6 (v := 2) rfl ?_
  refine own_on (fun tq => XS.iushr X0.here hx rfl (hb hby at_7) rfl) ?_
  show own_Fin p e below _ (s₁.setTop (mkF m 8 #[.val (.int p1), .val (.int p2), .val (.int p3), .val (.int p4), .val (.int (Int32.ofNat ld)), .unset, .unset, .unset, .unset, .unset, .unset, .unset] [(.int ((p1.toUInt32 >>> ((2 : Int32) &&& 31).toUInt32).toInt32))]))
  refine o_ic X0 H at_8 (v := 3) rfl ?_
  refine o_iand X0 H at_9 ?_
  obtain ⟨nn, hnn⟩ : ∃ q : Int32, q = (((p1.toUInt32 >>> ((2 : Int32) &&& 31).toUInt32).toInt32) &&& (3 : Int32)) := ⟨_, rfl⟩
  rw [← hnn]
  show own_Fin p e below _ (s₁.setTop (mkF m 10 #[.val (.int p1), .val (.int p2), .val (.int p3), .val (.int p4), .val (.int (Int32.ofNat ld)), .unset, .unset, .unset, .unset, .unset, .unset, .unset] [(.int nn)]))
  refine o_ist X0 H at_10 (L' := #[.val (.int p1), .val (.int p2), .val (.int p3), .val (.int p4), .val (.int (Int32.ofNat ld)), .val (.int nn), .unset, .unset, .unset, .unset, .unset, .unset]) rfl ?_
  refine o_ildN X0 H at_12 rfl ?_
  refine o_tc (argsL := [(.int p2)]) (rest := []) X0 H hml hZ hown (ow hw 0 rfl) (ow hw 1 rfl) (ow hw 2 rfl) (ow hw 3 rfl) (backOf (W := 0) (rm1 l Z a0 hw [] p2 h0 n0 (by exact Z0)) hZ (ow hw 3 rfl) (ow hw 2 rfl) (by decide) (by decide)) (by decide) e0 pd_11 at_13 rfl rfl rfl rfl rfl (by decide) (by decide) fun _ T294 Lc294 X294 hQ294 => ?_
  obtain ⟨c0, rfl, N294q, e294, oc0⟩ := hQ294
  have N294 := Fr.app N0 N294q
  show own_Fin p e below _ (T294.setTop (mkF m 16 #[.val (.int p1), .val (.int p2), .val (.int p3), .val (.int p4), .val (.int (Int32.ofNat ld)), .val (.int nn), .unset, .unset, .unset, .unset, .unset, .unset] [(.int c0)]))
  refine o_ist X294 H at_16 (L' := #[.val (.int p1), .val (.int p2), .val (.int p3), .val (.int p4), .val (.int (Int32.ofNat ld)), .val (.int nn), .val (.int c0), .unset, .unset, .unset, .unset, .unset]) rfl ?_
  refine o_ildN X294 H at_18 rfl ?_
  refine o_tc (argsL := [(.int p3)]) (rest := []) X294 H hml hZ hown (ow hw 0 rfl) (ow hw 1 rfl) (ow hw 2 rfl) (ow hw 3 rfl) (backOf (W := 0) (rm1 l Z a0 hw [] p3 h0 n0 (by exact Z0)) hZ (ow hw 3 rfl) (ow hw 2 rfl) (by decide) (by decide)) (by decide) e294 pd_11 at_19 rfl rfl rfl rfl rfl (by decide) (by decide) fun _ T295 Lc295 X295 hQ295 => ?_
  obtain ⟨c1, rfl, N295q, e295, oc1⟩ := hQ295
  have N295 := Fr.app N294 N295q
  show own_Fin p e below _ (T295.setTop (mkF m 22 #[.val (.int p1), .val (.int p2), .val (.int p3), .val (.int p4), .val (.int (Int32.ofNat ld)), .val (.int nn), .val (.int c0), .unset, .unset, .unset, .unset, .unset] [(.int c1)]))
  refine o_ist X295 H at_22 (L' := #[.val (.int p1), .val (.int p2), .val (.int p3), .val (.int p4), .val (.int (Int32.ofNat ld)), .val (.int nn), .val (.int c0), .val (.int c1), .unset, .unset, .unset, .unset]) rfl ?_
  refine o_ildN X295 H at_24 rfl ?_
  refine o_tc (argsL := [(.int p4)]) (rest := []) X295 H hml hZ hown (ow hw 0 rfl) (ow hw 1 rfl) (ow hw 2 rfl) (ow hw 3 rfl) (backOf (W := 0) (rm1 l Z a0 hw [] p4 h0 n0 (by exact Z0)) hZ (ow hw 3 rfl) (ow hw 2 rfl) (by decide) (by decide)) (by decide) e295 pd_11 at_25 rfl rfl rfl rfl rfl (by decide) (by decide) fun _ T296 Lc296 X296 hQ296 => ?_
  obtain ⟨c2, rfl, N296q, e296, oc2⟩ := hQ296
  have N296 := Fr.app N295 N296q
  show own_Fin p e below _ (T296.setTop (mkF m 28 #[.val (.int p1), .val (.int p2), .val (.int p3), .val (.int p4), .val (.int (Int32.ofNat ld)), .val (.int nn), .val (.int c0), .val (.int c1), .unset, .unset, .unset, .unset] [(.int c2)]))
  refine o_ist X296 H at_28 (L' := #[.val (.int p1), .val (.int p2), .val (.int p3), .val (.int p4), .val (.int (Int32.ofNat ld)), .val (.int nn), .val (.int c0), .val (.int c1), .val (.int c2), .unset, .unset, .unset]) rfl ?_
  refine o_bi X296 H at_30 (v := 11) rfl ?_
  obtain ⟨T297, h297, k297, X297, e297, E297, A297, st297⟩ := newP X296 hx hZ (ow hw 4 rfl) e296 (g := (mkF m 32 #[.val (.int p1), .val (.int p2), .val (.int p3), .val (.int p4), .val (.int (Int32.ofNat ld)), .val (.int nn), .val (.int c0), .val (.int c1), .val (.int c2), .unset, .unset, .unset] [(.int (11 : Int32))])) rfl (hb hby at_32) rfl (by decide) (cap := 11) (by decide) (by decide) (by decide) (by decide)
  obtain ⟨b297, g297⟩ : ∃ z, z = h0.size := ⟨_, rfl⟩
  rw [← g297] at A297 st297
  have gn297 : n0 ≤ b297 := Nat.le_trans Z0 (Nat.le_of_eq g297.symm)
  have V297 : Arv Z h297 b297 k297 .char (11 : Int32) [(.int (0 : Int32)), (.int (0 : Int32)), (.int (0 : Int32)), (.int (0 : Int32)), (.int (0 : Int32)), (.int (0 : Int32)), (.int (0 : Int32)), (.int (0 : Int32)), (.int (0 : Int32)), (.int (0 : Int32)), (.int (0 : Int32))] (.int (0 : Int32)) := (Arv.new A297 (by decide)).pad (pad_rep [] (.int (0 : Int32)) 11)
  refine own_on st297 ?_
  show own_Fin p e below _ (T297.setTop (mkF m 34 #[.val (.int p1), .val (.int p2), .val (.int p3), .val (.int p4), .val (.int (Int32.ofNat ld)), .val (.int nn), .val (.int c0), .val (.int c1), .val (.int c2), .unset, .unset, .unset] [(.ref b297)]))
  refine o_ast X297 H at_34 (L' := #[.val (.int p1), .val (.int p2), .val (.int p3), .val (.int p4), .val (.int (Int32.ofNat ld)), .val (.int nn), .val (.int c0), .val (.int c1), .val (.int c2), .val (.ref b297), .unset, .unset]) rfl rfl ?_
  refine o_ald X297 H at_36 rfl rfl ?_
  refine o_ic X297 H at_38 (v := 0) rfl ?_
  refine o_bi X297 H at_39 (v := 32) rfl ?_
  have cp298 := V297
  obtain ⟨cl298, Ar298, q298, S298, G298, H298, F298⟩ := cp298
  have hin298 : ¬ ((0 : Int32) < 0 ∨ cl298.slots.size ≤ ((0 : Int32)).toNatClampNeg) := inb_of S298 ⟨by decide, by decide⟩
  obtain ⟨T298, h298, X298, e298, W298, st298⟩ := stC X297 hx hZ e297 Ar298 (j := (0 : Int32)) hin298 (g := (mkF m 41 #[.val (.int p1), .val (.int p2), .val (.int p3), .val (.int p4), .val (.int (Int32.ofNat ld)), .val (.int nn), .val (.int c0), .val (.int c1), .val (.int c2), .val (.ref b297), .unset, .unset] [(.int (32 : Int32)), (.int (0 : Int32)), (.ref b297)])) rfl rfl (hb hby at_41)
  have V298 : Arv Z h298 b297 k297 .char (11 : Int32) [(.int (32 : Int32)), (.int (0 : Int32)), (.int (0 : Int32)), (.int (0 : Int32)), (.int (0 : Int32)), (.int (0 : Int32)), (.int (0 : Int32)), (.int (0 : Int32)), (.int (0 : Int32)), (.int (0 : Int32)), (.int (0 : Int32))] (.int (0 : Int32)) := Arv.set Ar298 q298 S298 G298 H298 F298 (by decide) W298 0 rfl (Nat.le_of_ble_eq_true rfl)
  have N298 := Fr.snoc X298 N296 gn297
  refine own_on st298 ?_
  show own_Fin p e below _ (T298.setTop (mkF m 42 #[.val (.int p1), .val (.int p2), .val (.int p3), .val (.int p4), .val (.int (Int32.ofNat ld)), .val (.int nn), .val (.int c0), .val (.int c1), .val (.int c2), .val (.ref b297), .unset, .unset] []))
  refine o_ald X298 H at_42 rfl rfl ?_
  refine o_ic X298 H at_44 (v := 1) rfl ?_
  refine o_bi X298 H at_45 (v := 32) rfl ?_
  have cp299 := V298
  obtain ⟨cl299, Ar299, q299, S299, G299, H299, F299⟩ := cp299
  have hin299 : ¬ ((1 : Int32) < 0 ∨ cl299.slots.size ≤ ((1 : Int32)).toNatClampNeg) := inb_of S299 ⟨by decide, by decide⟩
  obtain ⟨T299, h299, X299, e299, W299, st299⟩ := stC X298 hx hZ e298 Ar299 (j := (1 : Int32)) hin299 (g := (mkF m 47 #[.val (.int p1), .val (.int p2), .val (.int p3), .val (.int p4), .val (.int (Int32.ofNat ld)), .val (.int nn), .val (.int c0), .val (.int c1), .val (.int c2), .val (.ref b297), .unset, .unset] [(.int (32 : Int32)), (.int (1 : Int32)), (.ref b297)])) rfl rfl (hb hby at_47)
  have V299 : Arv Z h299 b297 k297 .char (11 : Int32) [(.int (32 : Int32)), (.int (32 : Int32)), (.int (0 : Int32)), (.int (0 : Int32)), (.int (0 : Int32)), (.int (0 : Int32)), (.int (0 : Int32)), (.int (0 : Int32)), (.int (0 : Int32)), (.int (0 : Int32)), (.int (0 : Int32))] (.int (0 : Int32)) := Arv.set Ar299 q299 S299 G299 H299 F299 (by decide) W299 1 rfl (Nat.le_of_ble_eq_true rfl)
  have N299 := Fr.snoc X299 N298 gn297
  refine own_on st299 ?_
  show own_Fin p e below _ (T299.setTop (mkF m 48 #[.val (.int p1), .val (.int p2), .val (.int p3), .val (.int p4), .val (.int (Int32.ofNat ld)), .val (.int nn), .val (.int c0), .val (.int c1), .val (.int c2), .val (.ref b297), .unset, .unset] []))
  refine o_ald X299 H at_48 rfl rfl ?_
  refine o_ic X299 H at_50 (v := 2) rfl ?_
  refine o_bi X299 H at_51 (v := 32) rfl ?_
  have cp300 := V299
  obtain ⟨cl300, Ar300, q300, S300, G300, H300, F300⟩ := cp300
  have hin300 : ¬ ((2 : Int32) < 0 ∨ cl300.slots.size ≤ ((2 : Int32)).toNatClampNeg) := inb_of S300 ⟨by decide, by decide⟩
  obtain ⟨T300, h300, X300, e300, W300, st300⟩ := stC X299 hx hZ e299 Ar300 (j := (2 : Int32)) hin300 (g := (mkF m 53 #[.val (.int p1), .val (.int p2), .val (.int p3), .val (.int p4), .val (.int (Int32.ofNat ld)), .val (.int nn), .val (.int c0), .val (.int c1), .val (.int c2), .val (.ref b297), .unset, .unset] [(.int (32 : Int32)), (.int (2 : Int32)), (.ref b297)])) rfl rfl (hb hby at_53)
  have V300 : Arv Z h300 b297 k297 .char (11 : Int32) [(.int (32 : Int32)), (.int (32 : Int32)), (.int (32 : Int32)), (.int (0 : Int32)), (.int (0 : Int32)), (.int (0 : Int32)), (.int (0 : Int32)), (.int (0 : Int32)), (.int (0 : Int32)), (.int (0 : Int32)), (.int (0 : Int32))] (.int (0 : Int32)) := Arv.set Ar300 q300 S300 G300 H300 F300 (by decide) W300 2 rfl (Nat.le_of_ble_eq_true rfl)
  have N300 := Fr.snoc X300 N299 gn297
  have y301 := (Nat.le_trans (Nat.le_trans (Nat.le_trans (Nat.le_trans Z0 E297.1) (Keep.of_wr W298).1) (Keep.of_wr W299).1) (Keep.of_wr W300).1)
  refine own_on st300 ?_
  show own_Fin p e below _ (T300.setTop (mkF m 54 #[.val (.int p1), .val (.int p2), .val (.int p3), .val (.int p4), .val (.int (Int32.ofNat ld)), .val (.int nn), .val (.int c0), .val (.int c1), .val (.int c2), .val (.ref b297), .unset, .unset] []))
  refine o_ald X300 H at_54 rfl rfl ?_
  refine o_ic X300 H at_56 (v := 3) rfl ?_
  refine o_bi X300 H at_57 (v := 32) rfl ?_
  have cp302 := V300
  obtain ⟨cl302, Ar302, q302, S302, G302, H302, F302⟩ := cp302
  have hin302 : ¬ ((3 : Int32) < 0 ∨ cl302.slots.size ≤ ((3 : Int32)).toNatClampNeg) := inb_of S302 ⟨by decide, by decide⟩
  obtain ⟨T302, h302, X302, e302, W302, st302⟩ := stC X300 hx hZ e300 Ar302 (j := (3 : Int32)) hin302 (g := (mkF m 59 #[.val (.int p1), .val (.int p2), .val (.int p3), .val (.int p4), .val (.int (Int32.ofNat ld)), .val (.int nn), .val (.int c0), .val (.int c1), .val (.int c2), .val (.ref b297), .unset, .unset] [(.int (32 : Int32)), (.int (3 : Int32)), (.ref b297)])) rfl rfl (hb hby at_59)
  have V302 : Arv Z h302 b297 k297 .char (11 : Int32) [(.int (32 : Int32)), (.int (32 : Int32)), (.int (32 : Int32)), (.int (32 : Int32)), (.int (0 : Int32)), (.int (0 : Int32)), (.int (0 : Int32)), (.int (0 : Int32)), (.int (0 : Int32)), (.int (0 : Int32)), (.int (0 : Int32))] (.int (0 : Int32)) := Arv.set Ar302 q302 S302 G302 H302 F302 (by decide) W302 3 rfl (Nat.le_of_ble_eq_true rfl)
  have N302 := Fr.snoc X302 N300 gn297
  refine own_on st302 ?_
  show own_Fin p e below _ (T302.setTop (mkF m 60 #[.val (.int p1), .val (.int p2), .val (.int p3), .val (.int p4), .val (.int (Int32.ofNat ld)), .val (.int nn), .val (.int c0), .val (.int c1), .val (.int c2), .val (.ref b297), .unset, .unset] []))
  refine o_ald X302 H at_60 rfl rfl ?_
  refine o_ic X302 H at_62 (v := 4) rfl ?_
  refine o_bi X302 H at_63 (v := 32) rfl ?_
  have cp303 := V302
  obtain ⟨cl303, Ar303, q303, S303, G303, H303, F303⟩ := cp303
  have hin303 : ¬ ((4 : Int32) < 0 ∨ cl303.slots.size ≤ ((4 : Int32)).toNatClampNeg) := inb_of S303 ⟨by decide, by decide⟩
  obtain ⟨T303, h303, X303, e303, W303, st303⟩ := stC X302 hx hZ e302 Ar303 (j := (4 : Int32)) hin303 (g := (mkF m 65 #[.val (.int p1), .val (.int p2), .val (.int p3), .val (.int p4), .val (.int (Int32.ofNat ld)), .val (.int nn), .val (.int c0), .val (.int c1), .val (.int c2), .val (.ref b297), .unset, .unset] [(.int (32 : Int32)), (.int (4 : Int32)), (.ref b297)])) rfl rfl (hb hby at_65)
  have V303 : Arv Z h303 b297 k297 .char (11 : Int32) [(.int (32 : Int32)), (.int (32 : Int32)), (.int (32 : Int32)), (.int (32 : Int32)), (.int (32 : Int32)), (.int (0 : Int32)), (.int (0 : Int32)), (.int (0 : Int32)), (.int (0 : Int32)), (.int (0 : Int32)), (.int (0 : Int32))] (.int (0 : Int32)) := Arv.set Ar303 q303 S303 G303 H303 F303 (by decide) W303 4 rfl (Nat.le_of_ble_eq_true rfl)
  have N303 := Fr.snoc X303 N302 gn297
  refine own_on st303 ?_
  show own_Fin p e below _ (T303.setTop (mkF m 66 #[.val (.int p1), .val (.int p2), .val (.int p3), .val (.int p4), .val (.int (Int32.ofNat ld)), .val (.int nn), .val (.int c0), .val (.int c1), .val (.int c2), .val (.ref b297), .unset, .unset] []))
  refine o_ald X303 H at_66 rfl rfl ?_
  refine o_ic X303 H at_68 (v := 5) rfl ?_
  refine o_bi X303 H at_69 (v := 32) rfl ?_
  have cp304 := V303
  obtain ⟨cl304, Ar304, q304, S304, G304, H304, F304⟩ := cp304
  have hin304 : ¬ ((5 : Int32) < 0 ∨ cl304.slots.size ≤ ((5 : Int32)).toNatClampNeg) := inb_of S304 ⟨by decide, by decide⟩
  obtain ⟨T304, h304, X304, e304, W304, st304⟩ := stC X303 hx hZ e303 Ar304 (j := (5 : Int32)) hin304 (g := (mkF m 71 #[.val (.int p1), .val (.int p2), .val (.int p3), .val (.int p4), .val (.int (Int32.ofNat ld)), .val (.int nn), .val (.int c0), .val (.int c1), .val (.int c2), .val (.ref b297), .unset, .unset] [(.int (32 : Int32)), (.int (5 : Int32)), (.ref b297)])) rfl rfl (hb hby at_71)
  have V304 : Arv Z h304 b297 k297 .char (11 : Int32) [(.int (32 : Int32)), (.int (32 : Int32)), (.int (32 : Int32)), (.int (32 : Int32)), (.int (32 : Int32)), (.int (32 : Int32)), (.int (0 : Int32)), (.int (0 : Int32)), (.int (0 : Int32)), (.int (0 : Int32)), (.int (0 : Int32))] (.int (0 : Int32)) := Arv.set Ar304 q304 S304 G304 H304 F304 (by decide) W304 5 rfl (Nat.le_of_ble_eq_true rfl)
  have N304 := Fr.snoc X304 N303 gn297
  refine own_on st304 ?_
  show own_Fin p e below _ (T304.setTop (mkF m 72 #[.val (.int p1), .val (.int p2), .val (.int p3), .val (.int p4), .val (.int (Int32.ofNat ld)), .val (.int nn), .val (.int c0), .val (.int c1), .val (.int c2), .val (.ref b297), .unset, .unset] []))
  refine o_ald X304 H at_72 rfl rfl ?_
  refine o_bi X304 H at_74 (v := 6) rfl ?_
  refine o_bi X304 H at_76 (v := 32) rfl ?_
  have cp305 := V304
  obtain ⟨cl305, Ar305, q305, S305, G305, H305, F305⟩ := cp305
  have hin305 : ¬ ((6 : Int32) < 0 ∨ cl305.slots.size ≤ ((6 : Int32)).toNatClampNeg) := inb_of S305 ⟨by decide, by decide⟩
  obtain ⟨T305, h305, X305, e305, W305, st305⟩ := stC X304 hx hZ e304 Ar305 (j := (6 : Int32)) hin305 (g := (mkF m 78 #[.val (.int p1), .val (.int p2), .val (.int p3), .val (.int p4), .val (.int (Int32.ofNat ld)), .val (.int nn), .val (.int c0), .val (.int c1), .val (.int c2), .val (.ref b297), .unset, .unset] [(.int (32 : Int32)), (.int (6 : Int32)), (.ref b297)])) rfl rfl (hb hby at_78)
  have V305 : Arv Z h305 b297 k297 .char (11 : Int32) [(.int (32 : Int32)), (.int (32 : Int32)), (.int (32 : Int32)), (.int (32 : Int32)), (.int (32 : Int32)), (.int (32 : Int32)), (.int (32 : Int32)), (.int (0 : Int32)), (.int (0 : Int32)), (.int (0 : Int32)), (.int (0 : Int32))] (.int (0 : Int32)) := Arv.set Ar305 q305 S305 G305 H305 F305 (by decide) W305 6 rfl (Nat.le_of_ble_eq_true rfl)
  have N305 := Fr.snoc X305 N304 gn297
  have y306 := (Nat.le_trans (Nat.le_trans (Nat.le_trans (Nat.le_trans y301 (Keep.of_wr W302).1) (Keep.of_wr W303).1) (Keep.of_wr W304).1) (Keep.of_wr W305).1)
  have y307 := ((((((((O.ext E297).wr W298 gn297).wr W299 gn297).wr W300 gn297).wr W302 gn297).wr W303 gn297).wr W304 gn297).wr W305 gn297)
  refine own_on st305 ?_
  show own_Fin p e below _ (T305.setTop (mkF m 79 #[.val (.int p1), .val (.int p2), .val (.int p3), .val (.int p4), .val (.int (Int32.ofNat ld)), .val (.int nn), .val (.int c0), .val (.int c1), .val (.int c2), .val (.ref b297), .unset, .unset] []))
  refine o_ald X305 H at_79 rfl rfl ?_
  refine o_bi X305 H at_81 (v := 7) rfl ?_
  refine o_bi X305 H at_83 (v := 32) rfl ?_
  have cp308 := V305
  obtain ⟨cl308, Ar308, q308, S308, G308, H308, F308⟩ := cp308
  have hin308 : ¬ ((7 : Int32) < 0 ∨ cl308.slots.size ≤ ((7 : Int32)).toNatClampNeg) := inb_of S308 ⟨by decide, by decide⟩
  obtain ⟨T308, h308, X308, e308, W308, st308⟩ := stC X305 hx hZ e305 Ar308 (j := (7 : Int32)) hin308 (g := (mkF m 85 #[.val (.int p1), .val (.int p2), .val (.int p3), .val (.int p4), .val (.int (Int32.ofNat ld)), .val (.int nn), .val (.int c0), .val (.int c1), .val (.int c2), .val (.ref b297), .unset, .unset] [(.int (32 : Int32)), (.int (7 : Int32)), (.ref b297)])) rfl rfl (hb hby at_85)
  have V308 : Arv Z h308 b297 k297 .char (11 : Int32) [(.int (32 : Int32)), (.int (32 : Int32)), (.int (32 : Int32)), (.int (32 : Int32)), (.int (32 : Int32)), (.int (32 : Int32)), (.int (32 : Int32)), (.int (32 : Int32)), (.int (0 : Int32)), (.int (0 : Int32)), (.int (0 : Int32))] (.int (0 : Int32)) := Arv.set Ar308 q308 S308 G308 H308 F308 (by decide) W308 7 rfl (Nat.le_of_ble_eq_true rfl)
  have N308 := Fr.snoc X308 N305 gn297
  refine own_on st308 ?_
  show own_Fin p e below _ (T308.setTop (mkF m 86 #[.val (.int p1), .val (.int p2), .val (.int p3), .val (.int p4), .val (.int (Int32.ofNat ld)), .val (.int nn), .val (.int c0), .val (.int c1), .val (.int c2), .val (.ref b297), .unset, .unset] []))
  refine o_ald X308 H at_86 rfl rfl ?_
  refine o_bi X308 H at_88 (v := 8) rfl ?_
  refine o_bi X308 H at_90 (v := 32) rfl ?_
  have cp309 := V308
  obtain ⟨cl309, Ar309, q309, S309, G309, H309, F309⟩ := cp309
  have hin309 : ¬ ((8 : Int32) < 0 ∨ cl309.slots.size ≤ ((8 : Int32)).toNatClampNeg) := inb_of S309 ⟨by decide, by decide⟩
  obtain ⟨T309, h309, X309, e309, W309, st309⟩ := stC X308 hx hZ e308 Ar309 (j := (8 : Int32)) hin309 (g := (mkF m 92 #[.val (.int p1), .val (.int p2), .val (.int p3), .val (.int p4), .val (.int (Int32.ofNat ld)), .val (.int nn), .val (.int c0), .val (.int c1), .val (.int c2), .val (.ref b297), .unset, .unset] [(.int (32 : Int32)), (.int (8 : Int32)), (.ref b297)])) rfl rfl (hb hby at_92)
  have V309 : Arv Z h309 b297 k297 .char (11 : Int32) [(.int (32 : Int32)), (.int (32 : Int32)), (.int (32 : Int32)), (.int (32 : Int32)), (.int (32 : Int32)), (.int (32 : Int32)), (.int (32 : Int32)), (.int (32 : Int32)), (.int (32 : Int32)), (.int (0 : Int32)), (.int (0 : Int32))] (.int (0 : Int32)) := Arv.set Ar309 q309 S309 G309 H309 F309 (by decide) W309 8 rfl (Nat.le_of_ble_eq_true rfl)
  have N309 := Fr.snoc X309 N308 gn297
  refine own_on st309 ?_
  show own_Fin p e below _ (T309.setTop (mkF m 93 #[.val (.int p1), .val (.int p2), .val (.int p3), .val (.int p4), .val (.int (Int32.ofNat ld)), .val (.int nn), .val (.int c0), .val (.int c1), .val (.int c2), .val (.ref b297), .unset, .unset] []))
  refine o_ald X309 H at_93 rfl rfl ?_
  refine o_bi X309 H at_95 (v := 9) rfl ?_
  refine o_bi X309 H at_97 (v := 32) rfl ?_
  have cp310 := V309
  obtain ⟨cl310, Ar310, q310, S310, G310, H310, F310⟩ := cp310
  have hin310 : ¬ ((9 : Int32) < 0 ∨ cl310.slots.size ≤ ((9 : Int32)).toNatClampNeg) := inb_of S310 ⟨by decide, by decide⟩
  obtain ⟨T310, h310, X310, e310, W310, st310⟩ := stC X309 hx hZ e309 Ar310 (j := (9 : Int32)) hin310 (g := (mkF m 99 #[.val (.int p1), .val (.int p2), .val (.int p3), .val (.int p4), .val (.int (Int32.ofNat ld)), .val (.int nn), .val (.int c0), .val (.int c1), .val (.int c2), .val (.ref b297), .unset, .unset] [(.int (32 : Int32)), (.int (9 : Int32)), (.ref b297)])) rfl rfl (hb hby at_99)
  have V310 : Arv Z h310 b297 k297 .char (11 : Int32) [(.int (32 : Int32)), (.int (32 : Int32)), (.int (32 : Int32)), (.int (32 : Int32)), (.int (32 : Int32)), (.int (32 : Int32)), (.int (32 : Int32)), (.int (32 : Int32)), (.int (32 : Int32)), (.int (32 : Int32)), (.int (0 : Int32))] (.int (0 : Int32)) := Arv.set Ar310 q310 S310 G310 H310 F310 (by decide) W310 9 rfl (Nat.le_of_ble_eq_true rfl)
  have N310 := Fr.snoc X310 N309 gn297
  refine own_on st310 ?_
  show own_Fin p e below _ (T310.setTop (mkF m 100 #[.val (.int p1), .val (.int p2), .val (.int p3), .val (.int p4), .val (.int (Int32.ofNat ld)), .val (.int nn), .val (.int c0), .val (.int c1), .val (.int c2), .val (.ref b297), .unset, .unset] []))
  refine o_ald X310 H at_100 rfl rfl ?_
  refine o_bi X310 H at_102 (v := 10) rfl ?_
  refine o_bi X310 H at_104 (v := 32) rfl ?_
  have cp311 := V310
  obtain ⟨cl311, Ar311, q311, S311, G311, H311, F311⟩ := cp311
  have hin311 : ¬ ((10 : Int32) < 0 ∨ cl311.slots.size ≤ ((10 : Int32)).toNatClampNeg) := inb_of S311 ⟨by decide, by decide⟩
  obtain ⟨T311, h311, X311, e311, W311, st311⟩ := stC X310 hx hZ e310 Ar311 (j := (10 : Int32)) hin311 (g := (mkF m 106 #[.val (.int p1), .val (.int p2), .val (.int p3), .val (.int p4), .val (.int (Int32.ofNat ld)), .val (.int nn), .val (.int c0), .val (.int c1), .val (.int c2), .val (.ref b297), .unset, .unset] [(.int (32 : Int32)), (.int (10 : Int32)), (.ref b297)])) rfl rfl (hb hby at_106)
  have V311 : Arv Z h311 b297 k297 .char (11 : Int32) [(.int (32 : Int32)), (.int (32 : Int32)), (.int (32 : Int32)), (.int (32 : Int32)), (.int (32 : Int32)), (.int (32 : Int32)), (.int (32 : Int32)), (.int (32 : Int32)), (.int (32 : Int32)), (.int (32 : Int32)), (.int (32 : Int32))] (.int (0 : Int32)) := Arv.set Ar311 q311 S311 G311 H311 F311 (by decide) W311 10 rfl (Nat.le_of_ble_eq_true rfl)
  have N311 := Fr.snoc X311 N310 gn297
  have y312 := (Nat.le_trans (Nat.le_trans (Nat.le_trans (Nat.le_trans y306 (Keep.of_wr W308).1) (Keep.of_wr W309).1) (Keep.of_wr W310).1) (Keep.of_wr W311).1)
  refine own_on st311 ?_
  show own_Fin p e below _ (T311.setTop (mkF m 107 #[.val (.int p1), .val (.int p2), .val (.int p3), .val (.int p4), .val (.int (Int32.ofNat ld)), .val (.int nn), .val (.int c0), .val (.int c1), .val (.int c2), .val (.ref b297), .unset, .unset] []))
  refine o_ild X311 H at_107 rfl ?_
  refine o_ist X311 H at_109 (L' := #[.val (.int p1), .val (.int p2), .val (.int p3), .val (.int p4), .val (.int (Int32.ofNat ld)), .val (.int nn), .val (.int c0), .val (.int c1), .val (.int c2), .val (.ref b297), .val (.int (Int32.ofNat ld)), .unset]) rfl ?_
  refine o_ald X311 H at_111 rfl rfl ?_
  refine o_ild X311 H at_113 rfl ?_
  refine o_bi X311 H at_115 (v := 34) rfl ?_
  have cp313 : Arv Z h311 b297 k297 .char (11 : Int32) ((own_buf).map Value.int) (.int 0) := V311
  obtain ⟨cl313, Ar313, q313, S313, G313, H313, F313⟩ := cp313
  have hin313 : ¬ ((Int32.ofNat ld) < 0 ∨ cl313.slots.size ≤ ((Int32.ofNat ld)).toNatClampNeg) := inb_of S313 (own_inr (by omega))
  obtain ⟨T313, h313, X313, e313, W313, st313⟩ := stC X311 hx hZ e311 Ar313 (j := (Int32.ofNat ld)) hin313 (g := (mkF m 117 #[.val (.int p1), .val (.int p2), .val (.int p3), .val (.int p4), .val (.int (Int32.ofNat ld)), .val (.int nn), .val (.int c0), .val (.int c1), .val (.int c2), .val (.ref b297), .val (.int (Int32.ofNat ld)), .unset] [(.int (34 : Int32)), (.int (Int32.ofNat ld)), (.ref b297)])) rfl rfl (hb hby at_117)
  have V313 : Arv Z h313 b297 k297 .char (11 : Int32) (((own_buf).set (ld) 34).map Value.int) (.int 0) := by rw [List.map_set]; have q := Arv.set Ar313 q313 S313 G313 H313 F313 (fits_nar_char _) W313 (ld) (own_clamp (by omega)) (by rw [List.length_map, show own_buf.length = 11 from rfl]; omega); rw [own_narc (by decide : ¬ (34 : Int32) < 0 ∧ ¬ (255 : Int32) < 34)] at q; exact q
  have N313 := Fr.snoc X313 N311 gn297
  refine own_on st313 ?_
  show own_Fin p e below _ (T313.setTop (mkF m 118 #[.val (.int p1), .val (.int p2), .val (.int p3), .val (.int p4), .val (.int (Int32.ofNat ld)), .val (.int nn), .val (.int c0), .val (.int c1), .val (.int c2), .val (.ref b297), .val (.int (Int32.ofNat ld)), .unset] []))
  refine o_ild X313 H at_118 rfl ?_
  refine o_ic X313 H at_120 (v := 1) rfl ?_
  refine o_iadd X313 H at_121 ?_
  refine o_ist X313 H at_122 (L' := #[.val (.int p1), .val (.int p2), .val (.int p3), .val (.int p4), .val (.int (Int32.ofNat ld)), .val (.int nn), .val (.int c0), .val (.int c1), .val (.int c2), .val (.ref b297), .val (.int ((Int32.ofNat ld) + (1 : Int32))), .unset]) rfl ?_
  rw [own_inc]
  show own_Fin p e below _ (T313.setTop (mkF m 124 #[.val (.int p1), .val (.int p2), .val (.int p3), .val (.int p4), .val (.int (Int32.ofNat ld)), .val (.int nn), .val (.int c0), .val (.int c1), .val (.int c2), .val (.ref b297), .val (.int (Int32.ofNat (ld + 1))), .unset] []))
  rcases (hnn ▸ own_and3 _ : nn = 0 ∨ nn = 1 ∨ nn = 2 ∨ nn = 3) with hn | hn | hn | hn
  · rw [hn]
    show own_Fin p e below _ (T313.setTop (mkF m 124 #[.val (.int p1), .val (.int p2), .val (.int p3), .val (.int p4), .val (.int (Int32.ofNat ld)), .val (.int (0 : Int32)), .val (.int c0), .val (.int c1), .val (.int c2), .val (.ref b297), .val (.int (Int32.ofNat (ld + 1))), .unset] []))
    refine o_ild X313 H at_124 rfl ?_
    refine o_ifY X313 H at_126 ((if0 _ _).trans (flt (by decide : ¬ ((0 : Int32) < (0 : Int32)))).2.2.2) (pc' := 140) (by decide) (by decide) ?_
    refine o_ild X313 H at_140 rfl ?_
    refine o_ic X313 H at_142 (v := 1) rfl ?_
    refine o_icY X313 H at_143 (flt (by decide : ¬ ((1 : Int32) < (0 : Int32)))).2.2.2 (pc' := 157) (by decide) (by decide) ?_
    refine o_ild X313 H at_157 rfl ?_
    refine o_ic X313 H at_159 (v := 2) rfl ?_
    refine o_icY X313 H at_160 (flt (by decide : ¬ ((2 : Int32) < (0 : Int32)))).2.2.2 (pc' := 174) (by decide) (by decide) ?_
    refine o_ald X313 H at_174 rfl rfl ?_
    refine o_ild X313 H at_176 rfl ?_
    refine o_bi X313 H at_178 (v := 34) rfl ?_
    have cp314 : Arv Z h313 b297 k297 .char (11 : Int32) (((own_buf).set (ld) 34).map Value.int) (.int 0) := V313
    obtain ⟨cl314, Ar314, q314, S314, G314, H314, F314⟩ := cp314
    have hin314 : ¬ ((Int32.ofNat (ld + 1)) < 0 ∨ cl314.slots.size ≤ ((Int32.ofNat (ld + 1))).toNatClampNeg) := inb_of S314 (own_inr (by omega))
    obtain ⟨T314, h314, X314, e314, W314, st314⟩ := stC X313 hx hZ e313 Ar314 (j := (Int32.ofNat (ld + 1))) hin314 (g := (mkF m 180 #[.val (.int p1), .val (.int p2), .val (.int p3), .val (.int p4), .val (.int (Int32.ofNat ld)), .val (.int (0 : Int32)), .val (.int c0), .val (.int c1), .val (.int c2), .val (.ref b297), .val (.int (Int32.ofNat (ld + 1))), .unset] [(.int (34 : Int32)), (.int (Int32.ofNat (ld + 1))), (.ref b297)])) rfl rfl (hb hby at_180)
    have V314 : Arv Z h314 b297 k297 .char (11 : Int32) ((((own_buf).set (ld) 34).set (ld + 1) 34).map Value.int) (.int 0) := by rw [List.map_set]; have q := Arv.set Ar314 q314 S314 G314 H314 F314 (fits_nar_char _) W314 (ld + 1) (own_clamp (by omega)) (by rw [List.length_map, show ((own_buf).set (ld) 34).length = 11 by simp [own_putl, own_buf]]; omega); rw [own_narc (by decide : ¬ (34 : Int32) < 0 ∧ ¬ (255 : Int32) < 34)] at q; exact q
    have N314 := Fr.snoc X314 N313 gn297
    refine own_on st314 ?_
    show own_Fin p e below _ (T314.setTop (mkF m 181 #[.val (.int p1), .val (.int p2), .val (.int p3), .val (.int p4), .val (.int (Int32.ofNat ld)), .val (.int (0 : Int32)), .val (.int c0), .val (.int c1), .val (.int c2), .val (.ref b297), .val (.int (Int32.ofNat (ld + 1))), .unset] []))
    obtain ⟨T315, h315, X315, e315, E315, A315, D315, -, st315⟩ := newO X314 hx hZ hown (ow hw 5 rfl) (ow hw 6 rfl) (ow hw 7 rfl) e314 (g := (mkF m 181 #[.val (.int p1), .val (.int p2), .val (.int p3), .val (.int p4), .val (.int (Int32.ofNat ld)), .val (.int (0 : Int32)), .val (.int c0), .val (.int c1), .val (.int c2), .val (.ref b297), .val (.int (Int32.ofNat (ld + 1))), .unset] [])) rfl (hb hby at_181) (by decide) (by decide)
    obtain ⟨b315, g315⟩ : ∃ z, z = h314.size := ⟨_, rfl⟩
    rw [← g315] at A315 D315 st315
    have ne315_b297 : b297 ≠ b315 := own_ne_of (Z := Z) V314.lt g315
    have y316 := (((((((y307.wr W308 gn297).wr W309 gn297).wr W310 gn297).wr W311 gn297).wr W313 gn297).wr W314 gn297).ext E315)
    have gn315 : n0 ≤ b315 := Nat.le_trans (Nat.le_trans (Nat.le_trans y312 (Keep.of_wr W313).1) (Keep.of_wr W314).1) (Nat.le_of_eq g315.symm)
    have F315_coder : Fld Z h315 b315 "java/lang/String" "coder" "B" (.int (0 : Int32)) := D315 (Or.inr (ow hw 31 rfl)) (ty := .byte) (by decide)
    have F315_value : Fld Z h315 b315 "java/lang/String" "value" "[B" .null := D315 (Or.inr (ow hw 33 rfl)) (ty := (.array .byte)) (by decide)
    refine own_on st315 ?_
    show own_Fin p e below _ (T315.setTop (mkF m 184 #[.val (.int p1), .val (.int p2), .val (.int p3), .val (.int p4), .val (.int (Int32.ofNat ld)), .val (.int (0 : Int32)), .val (.int c0), .val (.int c1), .val (.int c2), .val (.ref b297), .val (.int (Int32.ofNat (ld + 1))), .unset] [(.ref b315)]))
    refine o_dup X315 H at_184 rfl ?_
    refine o_ald X315 H at_185 rfl rfl ?_
    have hF317 : (((own_buf).set (ld) 34).set (ld + 1) 34) = (own_cs ld ([] : List (Bool × Int32)) (9 - ld)) := own_f0 hl3
    have V317 : Arv Z h315 b297 k297 .char (11 : Int32) ((own_cs ld ([] : List (Bool × Int32)) (9 - ld)).map Value.int) (.int 0) := by have q := (V314.ext E315); rw [hF317] at q; exact q
    have hL317 : (own_cs ld ([] : List (Bool × Int32)) (9 - ld)).length = 11 := by rw [← hF317]; simp [own_putl, own_buf]
    have hu317 : ∀ u ∈ ([] : List (Bool × Int32)), own_unit u := fun _ q => nomatch q
    have rg317 := own_rng (ld := ld) (tl := (9 - ld)) hu317
    obtain ⟨_, _, ⟨T317, L317, k317, n317⟩, -, X317, ⟨Lc317, hQ317, l317, y317, z317⟩, st317⟩ := X315.specialBack hx (y := (⟨"java/lang/String", "<init>", "([C)V"⟩ : MethodName)) rfl hown (mvT hZ (ow hw 8 rfl)) (mvT hZ (ow hw 9 rfl)) (mvT hZ (ow hw 10 rfl)) (by decide) (StrChars.Road.backV (W := 1) hZ (own_wV hw) (ow hw 6 rfl) (n0 := n0) (n := 11) gn315 (Nat.le_trans (Nat.le_trans (Nat.le_trans y312 (Keep.of_wr W313).1) (Keep.of_wr W314).1) E315.1) A315 F315_value F315_coder V317 (SC.ext y316.2) hz hL317 rfl (by decide) (by decide) rg317 rfl (by decide) (by decide)) (g := (mkF m 187 #[.val (.int p1), .val (.int p2), .val (.int p3), .val (.int p4), .val (.int (Int32.ofNat ld)), .val (.int (0 : Int32)), .val (.int c0), .val (.int c1), .val (.int c2), .val (.ref b297), .val (.int (Int32.ofNat (ld + 1))), .unset] [(.ref b297), (.ref b315), (.ref b315)])) rfl hml.symm (Steps.refl _) (a := b315) (argsL := [(.ref b297)]) (rest := [(.ref b315)]) (lenOf pd_15 rfl) rfl (o_mr rfl) (hb hby at_187) (fun _ _ => ⟨rfl, e315, (by decide : 2 + 1 ≤ _), (by decide : 15 + 11 ≤ _)⟩)
    dsimp only [Pt.U, Pt.locs, Pt.cells, Pt.slots] at X317 l317 y317 z317 st317 hQ317
    replace l317 := l317.symm; replace y317 := y317.symm; replace z317 := z317.symm; subst l317 y317 z317
    obtain ⟨rfl, N317q, K317, Eq317, Cq317, t317, kt317, gt317, kk317, nt317, Vq317, Aq317⟩ := hQ317
    have N317 := Fr.app N314 N317q
    have y318 := (Nat.le_trans (Nat.le_trans (Nat.le_trans (Nat.le_trans y312 (Keep.of_wr W313).1) (Keep.of_wr W314).1) E315.1) K317.1)
    have Aw317 : Arv Z T317.heap t317 kt317 .byte (11 : Int32) (((own_cs ld ([] : List (Bool × Int32)) (9 - ld)).map StrChars.lo8).map Value.int) (.int 0) := Aq317
    refine own_via st317 ?_
    show own_Fin p e below _ (T317.setTop (mkF m 190 #[.val (.int p1), .val (.int p2), .val (.int p3), .val (.int p4), .val (.int (Int32.ofNat ld)), .val (.int (0 : Int32)), .val (.int c0), .val (.int c1), .val (.int c2), .val (.ref b297), .val (.int (Int32.ofNat (ld + 1))), .unset] [(.ref b315)]))
    refine o_tc (argsL := [(.ref b315)]) (rest := []) X317 H hml hZ hown (ow hw 34 rfl) (ow hw 35 rfl) (ow hw 36 rfl) (ow hw 37 rfl) (backOf (W := 0) (rm8 l Z a0 hw [] b315 z fm t317 kt317 ld (9 - ld) ([] : List (Bool × Int32)) (11 : Int32) (((own_cs ld ([] : List (Bool × Int32)) (9 - ld)).map StrChars.lo8).map Value.int) T317.heap n0 (by exact y318) hz (y316.keep K317 (allS gn315 all0)) SC SF hfm Eq317 Vq317 Cq317 Aw317 (own_cod hL317 (fun c q => (rg317 c q).2)) (own_r16 rg317) hl3 (by omega) (Nat.le_of_ble_eq_true rfl) hu317) hZ (ow hw 37 rfl) (ow hw 36 rfl) (by decide) (by decide)) (by decide) rfl pd_16 at_190 rfl rfl rfl rfl rfl (by decide) (by decide) fun _ T319 Lc319 X319 hQ319 => ?_
    obtain ⟨y319s, x319, kx319, rfl, N319q, K319, Eq319, Cq319, Vq319, Aq319⟩ := hQ319
    have N319 := Fr.app N317 N319q
    have Aw319 : Arv Z T319.heap x319 kx319 .byte (0 : Int32) [] (.int 0) := Aq319
    have rg320 : ∀ c ∈ ([] : List Int32), ¬ c < 0 ∧ ¬ (255 : Int32) < c := fun _ q => nomatch q
    show own_Fin p e below _ (T319.setTop (mkF m 193 #[.val (.int p1), .val (.int p2), .val (.int p3), .val (.int p4), .val (.int (Int32.ofNat ld)), .val (.int (0 : Int32)), .val (.int c0), .val (.int c1), .val (.int c2), .val (.ref b297), .val (.int (Int32.ofNat (ld + 1))), .unset] [(.ref y319s)]))
    refine o_ast X319 H at_193 (L' := #[.val (.int p1), .val (.int p2), .val (.int p3), .val (.int p4), .val (.int (Int32.ofNat ld)), .val (.int (0 : Int32)), .val (.int c0), .val (.int c1), .val (.int c2), .val (.ref b297), .val (.int (Int32.ofNat (ld + 1))), .val (.ref y319s)]) rfl rfl ?_
    refine o_ald X319 H at_195 rfl rfl ?_
    obtain ⟨cq321, kq321, q321a, q321b, q321c⟩ := isOf hZ rfl Eq319
    obtain ⟨_, _, ⟨T321, L321, k321, n321⟩, -, X321, ⟨Lc321, hQ321, l321, y321, z321⟩, st321⟩ := X319.virtualBack hx (y := (⟨"java/lang/String", "length", "()I"⟩ : MethodName)) (z := (⟨"java/lang/String", "length", "()I"⟩ : MethodName)) hown (mvT hZ (ow hw 139 rfl)) (mvT hZ (ow hw 39 rfl)) (notFace_of_selects (args := #[]) (mvT hZ (ow hw 41 rfl))) (mvT hZ (ow hw 41 rfl)) (mvT hZ (ow hw 40 rfl)) (by decide) (StrChars.Road.lenW (W := 0) hZ (own_wL hw) (ow hw 6 rfl) Eq319 Vq319 Cq319 Aw319 (own_cod (cs := ([] : List Int32)) (n := 0) rfl (fun c q => (rg320 c q).2)) (own_r16 rg320) (SC.ext ((y316.keep K317 (allS gn315 all0)).keep K319 all0).2) hz (Nat.le_of_ble_eq_true rfl) (by decide) (by decide)) q321a q321c (g := (mkF m 197 #[.val (.int p1), .val (.int p2), .val (.int p3), .val (.int p4), .val (.int (Int32.ofNat ld)), .val (.int (0 : Int32)), .val (.int c0), .val (.int c1), .val (.int c2), .val (.ref b297), .val (.int (Int32.ofNat (ld + 1))), .val (.ref y319s)] [(.ref y319s)])) rfl hml.symm (Steps.refl _) (argsL := []) (rest := []) (lenOf pd_1 rfl) rfl (o_mr rfl) (hb hby at_197) (fun _ _ => ⟨rfl, rfl, (by decide : 7 + 0 ≤ _), (by decide : 53 + 0 ≤ _)⟩)
    dsimp only [Pt.U, Pt.locs, Pt.cells, Pt.slots] at X321 l321 y321 z321 st321 hQ321
    replace l321 := l321.symm; replace y321 := y321.symm; replace z321 := z321.symm; subst l321 y321 z321
    obtain ⟨rfl, rfl, e321⟩ := hQ321
    have N321 := Fr.app N319 (Fr.nil n0)
    refine own_via st321 ?_
    show own_Fin p e below _ (T321.setTop (mkF m 200 #[.val (.int p1), .val (.int p2), .val (.int p3), .val (.int p4), .val (.int (Int32.ofNat ld)), .val (.int (0 : Int32)), .val (.int c0), .val (.int c1), .val (.int c2), .val (.ref b297), .val (.int (Int32.ofNat (ld + 1))), .val (.ref y319s)] [(.int (0 : Int32))]))
    refine o_ild X321 H at_200 rfl ?_
    refine o_icY X321 H at_202 (teq (by decide : (0 : Int32) = (0 : Int32))).1 (pc' := 207) (by decide) (by decide) ?_
    refine o_ild X321 H at_207 rfl ?_
    refine o_ifY X321 H at_209 ((if0 _ _).trans (flt (by decide : ¬ ((0 : Int32) < (0 : Int32)))).2.2.2) (pc' := 225) (by decide) (by decide) ?_
    refine o_ild X321 H at_225 rfl ?_
    refine o_ic X321 H at_227 (v := 1) rfl ?_
    refine o_icY X321 H at_228 (flt (by decide : ¬ ((1 : Int32) < (0 : Int32)))).2.2.2 (pc' := 244) (by decide) (by decide) ?_
    refine o_ild X321 H at_244 rfl ?_
    refine o_ic X321 H at_246 (v := 2) rfl ?_
    refine o_icY X321 H at_247 (flt (by decide : ¬ ((2 : Int32) < (0 : Int32)))).2.2.2 (pc' := 263) (by decide) (by decide) ?_
    refine o_ic X321 H at_263 (v := 1) rfl ?_
    exact own_ret (t := .boolean) X321 hx hlk hret rfl (Or.inl ⟨rfl, (by simp), _, rfl⟩) (hb hby at_264) (⟨rfl, N321⟩) (by decide) (by decide)
  · rw [hn]
    show own_Fin p e below _ (T313.setTop (mkF m 124 #[.val (.int p1), .val (.int p2), .val (.int p3), .val (.int p4), .val (.int (Int32.ofNat ld)), .val (.int (1 : Int32)), .val (.int c0), .val (.int c1), .val (.int c2), .val (.ref b297), .val (.int (Int32.ofNat (ld + 1))), .unset] []))
    refine o_ild X313 H at_124 rfl ?_
    refine o_ifN X313 H at_126 ((if0 _ _).trans (tlt (by decide : (0 : Int32) < (1 : Int32))).2.2.2) ?_
    refine o_ald X313 H at_129 rfl rfl ?_
    refine o_ild X313 H at_131 rfl ?_
    refine o_ild X313 H at_133 rfl ?_
    refine o_tc (argsL := [(.ref b297), (.int (Int32.ofNat (ld + 1))), (.int c0)]) (rest := []) X313 H hml hZ hown (ow hw 140 rfl) (ow hw 141 rfl) (ow hw 2 rfl) (ow hw 142 rfl) (backOf (W := 0) (rm29 l Z a0 hw [] b297 c0 k297 (ld + 1) ((own_buf).set (ld) 34) h313 n0 (by exact (Nat.le_trans y312 (Keep.of_wr W313).1)) V313 gn297 (by  omega) (by simp [own_putl, own_buf]) (own_u255 oc0)) hZ (ow hw 142 rfl) (ow hw 2 rfl) (by decide) (by decide)) (by decide) e313 pd_17 at_135 rfl rfl rfl rfl rfl (by decide) (by decide) fun _ T322 Lc322 X322 hQ322 => ?_
    obtain ⟨rfl, N322q, K322, Aq322⟩ := hQ322
    have N322 := Fr.app N313 N322q
    have y323 := ((((((y307.wr W308 gn297).wr W309 gn297).wr W310 gn297).wr W311 gn297).wr W313 gn297).keep K322 (allS gn297 all0))
    show own_Fin p e below _ (T322.setTop (mkF m 138 #[.val (.int p1), .val (.int p2), .val (.int p3), .val (.int p4), .val (.int (Int32.ofNat ld)), .val (.int (1 : Int32)), .val (.int c0), .val (.int c1), .val (.int c2), .val (.ref b297), .val (.int (Int32.ofNat (ld + 1))), .unset] [(.int (Int32.ofNat (ld + 1 + own_w c0)))]))
    refine o_ist X322 H at_138 (L' := #[.val (.int p1), .val (.int p2), .val (.int p3), .val (.int p4), .val (.int (Int32.ofNat ld)), .val (.int (1 : Int32)), .val (.int c0), .val (.int c1), .val (.int c2), .val (.ref b297), .val (.int (Int32.ofNat (ld + 1 + own_w c0))), .unset]) rfl ?_
    refine o_ild X322 H at_140 rfl ?_
    refine o_ic X322 H at_142 (v := 1) rfl ?_
    refine o_icY X322 H at_143 (flt (by decide : ¬ ((1 : Int32) < (1 : Int32)))).2.2.2 (pc' := 157) (by decide) (by decide) ?_
    refine o_ild X322 H at_157 rfl ?_
    refine o_ic X322 H at_159 (v := 2) rfl ?_
    refine o_icY X322 H at_160 (flt (by decide : ¬ ((2 : Int32) < (1 : Int32)))).2.2.2 (pc' := 174) (by decide) (by decide) ?_
    refine o_ald X322 H at_174 rfl rfl ?_
    refine o_ild X322 H at_176 rfl ?_
    refine o_bi X322 H at_178 (v := 34) rfl ?_
    have w0 := own_w12 c0
    have cp324 : Arv Z T322.heap b297 k297 .char (11 : Int32) ((own_put ((own_buf).set (ld) 34) (ld + 1) c0).map Value.int) (.int 0) := Aq322
    obtain ⟨cl324, Ar324, q324, S324, G324, H324, F324⟩ := cp324
    have hin324 : ¬ ((Int32.ofNat (ld + 1 + own_w c0)) < 0 ∨ cl324.slots.size ≤ ((Int32.ofNat (ld + 1 + own_w c0))).toNatClampNeg) := inb_of S324 (own_inr (by omega))
    obtain ⟨T324, h324, X324, e324, W324, st324⟩ := stC X322 hx hZ rfl Ar324 (j := (Int32.ofNat (ld + 1 + own_w c0))) hin324 (g := (mkF m 180 #[.val (.int p1), .val (.int p2), .val (.int p3), .val (.int p4), .val (.int (Int32.ofNat ld)), .val (.int (1 : Int32)), .val (.int c0), .val (.int c1), .val (.int c2), .val (.ref b297), .val (.int (Int32.ofNat (ld + 1 + own_w c0))), .unset] [(.int (34 : Int32)), (.int (Int32.ofNat (ld + 1 + own_w c0))), (.ref b297)])) rfl rfl (hb hby at_180)
    have V324 : Arv Z h324 b297 k297 .char (11 : Int32) (((own_put ((own_buf).set (ld) 34) (ld + 1) c0).set (ld + 1 + own_w c0) 34).map Value.int) (.int 0) := by rw [List.map_set]; have q := Arv.set Ar324 q324 S324 G324 H324 F324 (fits_nar_char _) W324 (ld + 1 + own_w c0) (own_clamp (by omega)) (by rw [List.length_map, show (own_put ((own_buf).set (ld) 34) (ld + 1) c0).length = 11 by simp [own_putl, own_buf]]; omega); rw [own_narc (by decide : ¬ (34 : Int32) < 0 ∧ ¬ (255 : Int32) < 34)] at q; exact q
    have N324 := Fr.snoc X324 N322 gn297
    refine own_on st324 ?_
    show own_Fin p e below _ (T324.setTop (mkF m 181 #[.val (.int p1), .val (.int p2), .val (.int p3), .val (.int p4), .val (.int (Int32.ofNat ld)), .val (.int (1 : Int32)), .val (.int c0), .val (.int c1), .val (.int c2), .val (.ref b297), .val (.int (Int32.ofNat (ld + 1 + own_w c0))), .unset] []))
    obtain ⟨T325, h325, X325, e325, E325, A325, D325, -, st325⟩ := newO X324 hx hZ hown (ow hw 5 rfl) (ow hw 6 rfl) (ow hw 7 rfl) e324 (g := (mkF m 181 #[.val (.int p1), .val (.int p2), .val (.int p3), .val (.int p4), .val (.int (Int32.ofNat ld)), .val (.int (1 : Int32)), .val (.int c0), .val (.int c1), .val (.int c2), .val (.ref b297), .val (.int (Int32.ofNat (ld + 1 + own_w c0))), .unset] [])) rfl (hb hby at_181) (by decide) (by decide)
    obtain ⟨b325, g325⟩ : ∃ z, z = h324.size := ⟨_, rfl⟩
    rw [← g325] at A325 D325 st325
    have ne325_b297 : b297 ≠ b325 := own_ne_of (Z := Z) V324.lt g325
    have y326 := (Nat.le_trans (Nat.le_trans (Nat.le_trans (Nat.le_trans y312 (Keep.of_wr W313).1) K322.1) (Keep.of_wr W324).1) E325.1)
    have gn325 : n0 ≤ b325 := Nat.le_trans (Nat.le_trans (Nat.le_trans (Nat.le_trans y312 (Keep.of_wr W313).1) K322.1) (Keep.of_wr W324).1) (Nat.le_of_eq g325.symm)
    have F325_coder : Fld Z h325 b325 "java/lang/String" "coder" "B" (.int (0 : Int32)) := D325 (Or.inr (ow hw 31 rfl)) (ty := .byte) (by decide)
    have F325_value : Fld Z h325 b325 "java/lang/String" "value" "[B" .null := D325 (Or.inr (ow hw 33 rfl)) (ty := (.array .byte)) (by decide)
    refine own_on st325 ?_
    show own_Fin p e below _ (T325.setTop (mkF m 184 #[.val (.int p1), .val (.int p2), .val (.int p3), .val (.int p4), .val (.int (Int32.ofNat ld)), .val (.int (1 : Int32)), .val (.int c0), .val (.int c1), .val (.int c2), .val (.ref b297), .val (.int (Int32.ofNat (ld + 1 + own_w c0))), .unset] [(.ref b325)]))
    refine o_dup X325 H at_184 rfl ?_
    refine o_ald X325 H at_185 rfl rfl ?_
    have hF327 : ((own_put ((own_buf).set (ld) 34) (ld + 1) c0).set (ld + 1 + own_w c0) 34) = (own_cs ld [(own_b c0, c0)] (9 - ld - own_w c0)) := own_f1 hl3
    have V327 : Arv Z h325 b297 k297 .char (11 : Int32) ((own_cs ld [(own_b c0, c0)] (9 - ld - own_w c0)).map Value.int) (.int 0) := by have q := (V324.ext E325); rw [hF327] at q; exact q
    have hL327 : (own_cs ld [(own_b c0, c0)] (9 - ld - own_w c0)).length = 11 := by rw [← hF327]; simp [own_putl, own_buf]
    have hu327 : ∀ u ∈ [(own_b c0, c0)], own_unit u := List.forall_mem_cons.mpr ⟨oc0, fun _ q => nomatch q⟩
    have rg327 := own_rng (ld := ld) (tl := (9 - ld - own_w c0)) hu327
    obtain ⟨_, _, ⟨T327, L327, k327, n327⟩, -, X327, ⟨Lc327, hQ327, l327, y327, z327⟩, st327⟩ := X325.specialBack hx (y := (⟨"java/lang/String", "<init>", "([C)V"⟩ : MethodName)) rfl hown (mvT hZ (ow hw 8 rfl)) (mvT hZ (ow hw 9 rfl)) (mvT hZ (ow hw 10 rfl)) (by decide) (StrChars.Road.backV (W := 1) hZ (own_wV hw) (ow hw 6 rfl) (n0 := n0) (n := 11) gn325 y326 A325 F325_value F325_coder V327 (SC.ext ((y323.wr W324 gn297).ext E325).2) hz hL327 rfl (by decide) (by decide) rg327 rfl (by decide) (by decide)) (g := (mkF m 187 #[.val (.int p1), .val (.int p2), .val (.int p3), .val (.int p4), .val (.int (Int32.ofNat ld)), .val (.int (1 : Int32)), .val (.int c0), .val (.int c1), .val (.int c2), .val (.ref b297), .val (.int (Int32.ofNat (ld + 1 + own_w c0))), .unset] [(.ref b297), (.ref b325), (.ref b325)])) rfl hml.symm (Steps.refl _) (a := b325) (argsL := [(.ref b297)]) (rest := [(.ref b325)]) (lenOf pd_15 rfl) rfl (o_mr rfl) (hb hby at_187) (fun _ _ => ⟨rfl, e325, (by decide : 2 + 1 ≤ _), (by decide : 15 + 11 ≤ _)⟩)
    dsimp only [Pt.U, Pt.locs, Pt.cells, Pt.slots] at X327 l327 y327 z327 st327 hQ327
    replace l327 := l327.symm; replace y327 := y327.symm; replace z327 := z327.symm; subst l327 y327 z327
    obtain ⟨rfl, N327q, K327, Eq327, Cq327, t327, kt327, gt327, kk327, nt327, Vq327, Aq327⟩ := hQ327
    have N327 := Fr.app N324 N327q
    have Aw327 : Arv Z T327.heap t327 kt327 .byte (11 : Int32) (((own_cs ld [(own_b c0, c0)] (9 - ld - own_w c0)).map StrChars.lo8).map Value.int) (.int 0) := Aq327
    refine own_via st327 ?_
    show own_Fin p e below _ (T327.setTop (mkF m 190 #[.val (.int p1), .val (.int p2), .val (.int p3), .val (.int p4), .val (.int (Int32.ofNat ld)), .val (.int (1 : Int32)), .val (.int c0), .val (.int c1), .val (.int c2), .val (.ref b297), .val (.int (Int32.ofNat (ld + 1 + own_w c0))), .unset] [(.ref b325)]))
    refine o_tc (argsL := [(.ref b325)]) (rest := []) X327 H hml hZ hown (ow hw 34 rfl) (ow hw 35 rfl) (ow hw 36 rfl) (ow hw 37 rfl) (backOf (W := 0) (rm8 l Z a0 hw [] b325 z fm t327 kt327 ld (9 - ld - own_w c0) ([(own_b c0, c0)]) (11 : Int32) (((own_cs ld [(own_b c0, c0)] (9 - ld - own_w c0)).map StrChars.lo8).map Value.int) T327.heap n0 (by exact (Nat.le_trans y326 K327.1)) hz (((y323.wr W324 gn297).ext E325).keep K327 (allS gn325 all0)) SC SF hfm Eq327 Vq327 Cq327 Aw327 (own_cod hL327 (fun c q => (rg327 c q).2)) (own_r16 rg327) hl3 (by omega) (Nat.le_of_ble_eq_true rfl) hu327) hZ (ow hw 37 rfl) (ow hw 36 rfl) (by decide) (by decide)) (by decide) rfl pd_16 at_190 rfl rfl rfl rfl rfl (by decide) (by decide) fun _ T328 Lc328 X328 hQ328 => ?_
    obtain ⟨y328s, x328, kx328, rfl, N328q, K328, Eq328, Cq328, Vq328, Aq328⟩ := hQ328
    have N328 := Fr.app N327 N328q
    have Aw328 : Arv Z T328.heap x328 kx328 .byte (1 : Int32) (([c0].map StrChars.lo8).map Value.int) (.int 0) := Aq328
    have rg329 : ∀ q_ ∈ [c0], ¬ q_ < 0 ∧ ¬ (255 : Int32) < q_ := List.forall_mem_cons.mpr ⟨(own_u255 oc0), fun _ q => nomatch q⟩
    show own_Fin p e below _ (T328.setTop (mkF m 193 #[.val (.int p1), .val (.int p2), .val (.int p3), .val (.int p4), .val (.int (Int32.ofNat ld)), .val (.int (1 : Int32)), .val (.int c0), .val (.int c1), .val (.int c2), .val (.ref b297), .val (.int (Int32.ofNat (ld + 1 + own_w c0))), .unset] [(.ref y328s)]))
    refine o_ast X328 H at_193 (L' := #[.val (.int p1), .val (.int p2), .val (.int p3), .val (.int p4), .val (.int (Int32.ofNat ld)), .val (.int (1 : Int32)), .val (.int c0), .val (.int c1), .val (.int c2), .val (.ref b297), .val (.int (Int32.ofNat (ld + 1 + own_w c0))), .val (.ref y328s)]) rfl rfl ?_
    refine o_ald X328 H at_195 rfl rfl ?_
    obtain ⟨cq330, kq330, q330a, q330b, q330c⟩ := isOf hZ rfl Eq328
    obtain ⟨_, _, ⟨T330, L330, k330, n330⟩, -, X330, ⟨Lc330, hQ330, l330, y330, z330⟩, st330⟩ := X328.virtualBack hx (y := (⟨"java/lang/String", "length", "()I"⟩ : MethodName)) (z := (⟨"java/lang/String", "length", "()I"⟩ : MethodName)) hown (mvT hZ (ow hw 139 rfl)) (mvT hZ (ow hw 39 rfl)) (notFace_of_selects (args := #[]) (mvT hZ (ow hw 41 rfl))) (mvT hZ (ow hw 41 rfl)) (mvT hZ (ow hw 40 rfl)) (by decide) (StrChars.Road.lenW (W := 0) hZ (own_wL hw) (ow hw 6 rfl) Eq328 Vq328 Cq328 Aw328 (own_cod (cs := [c0]) (n := 1) rfl (fun c q => (rg329 c q).2)) (own_r16 rg329) (SC.ext ((((y323.wr W324 gn297).ext E325).keep K327 (allS gn325 all0)).keep K328 all0).2) hz (Nat.le_of_ble_eq_true rfl) (by decide) (by decide)) q330a q330c (g := (mkF m 197 #[.val (.int p1), .val (.int p2), .val (.int p3), .val (.int p4), .val (.int (Int32.ofNat ld)), .val (.int (1 : Int32)), .val (.int c0), .val (.int c1), .val (.int c2), .val (.ref b297), .val (.int (Int32.ofNat (ld + 1 + own_w c0))), .val (.ref y328s)] [(.ref y328s)])) rfl hml.symm (Steps.refl _) (argsL := []) (rest := []) (lenOf pd_1 rfl) rfl (o_mr rfl) (hb hby at_197) (fun _ _ => ⟨rfl, rfl, (by decide : 7 + 0 ≤ _), (by decide : 53 + 0 ≤ _)⟩)
    dsimp only [Pt.U, Pt.locs, Pt.cells, Pt.slots] at X330 l330 y330 z330 st330 hQ330
    replace l330 := l330.symm; replace y330 := y330.symm; replace z330 := z330.symm; subst l330 y330 z330
    obtain ⟨rfl, rfl, e330⟩ := hQ330
    have N330 := Fr.app N328 (Fr.nil n0)
    refine own_via st330 ?_
    show own_Fin p e below _ (T330.setTop (mkF m 200 #[.val (.int p1), .val (.int p2), .val (.int p3), .val (.int p4), .val (.int (Int32.ofNat ld)), .val (.int (1 : Int32)), .val (.int c0), .val (.int c1), .val (.int c2), .val (.ref b297), .val (.int (Int32.ofNat (ld + 1 + own_w c0))), .val (.ref y328s)] [(.int (1 : Int32))]))
    refine o_ild X330 H at_200 rfl ?_
    refine o_icY X330 H at_202 (teq (by decide : (1 : Int32) = (1 : Int32))).1 (pc' := 207) (by decide) (by decide) ?_
    refine o_ild X330 H at_207 rfl ?_
    refine o_ifN X330 H at_209 ((if0 _ _).trans (tlt (by decide : (0 : Int32) < (1 : Int32))).2.2.2) ?_
    refine o_ald X330 H at_212 rfl rfl ?_
    refine o_ic X330 H at_214 (v := 0) rfl ?_
    obtain ⟨cq331, kq331, q331a, q331b, q331c⟩ := isOf hZ e330 Eq328
    obtain ⟨_, _, ⟨T331, L331, k331, n331⟩, -, X331, ⟨Lc331, hQ331, l331, y331, z331⟩, st331⟩ := X330.virtualBack hx (y := (⟨"java/lang/String", "charAt", "(I)C"⟩ : MethodName)) (z := (⟨"java/lang/String", "charAt", "(I)C"⟩ : MethodName)) hown (mvT hZ (ow hw 161 rfl)) (mvT hZ (ow hw 49 rfl)) (notFace_of_selects (args := #[]) (mvT hZ (ow hw 51 rfl))) (mvT hZ (ow hw 51 rfl)) (mvT hZ (ow hw 50 rfl)) (by decide) (StrChars.Road.chN (W := 0) hZ (own_wC hw) (ow hw 6 rfl) Eq328 Vq328 Cq328 Aw328 (own_cod (cs := [c0]) (n := 1) rfl (fun c q => (rg329 c q).2)) (own_r16 rg329) (SC.ext ((((y323.wr W324 gn297).ext E325).keep K327 (allS gn325 all0)).keep K328 all0).2) hz (SF.ext ((((y323.wr W324 gn297).ext E325).keep K327 (allS gn325 all0)).keep K328 all0).2) hfm (i := 0) (Nat.le_of_ble_eq_true rfl) (Nat.le_of_ble_eq_true rfl) rfl (by decide) (by decide)) q331a q331c (g := (mkF m 215 #[.val (.int p1), .val (.int p2), .val (.int p3), .val (.int p4), .val (.int (Int32.ofNat ld)), .val (.int (1 : Int32)), .val (.int c0), .val (.int c1), .val (.int c2), .val (.ref b297), .val (.int (Int32.ofNat (ld + 1 + own_w c0))), .val (.ref y328s)] [(.int (0 : Int32)), (.ref y328s)])) rfl hml.symm (Steps.refl _) (argsL := [(.int (0 : Int32))]) (rest := []) (lenOf pd_11 rfl) rfl (o_mr rfl) (hb hby at_215) (fun _ _ => ⟨rfl, e330, (by decide : 7 + 0 ≤ _), (by decide : 53 + 0 ≤ _)⟩)
    dsimp only [Pt.U, Pt.locs, Pt.cells, Pt.slots] at X331 l331 y331 z331 st331 hQ331
    replace l331 := l331.symm; replace y331 := y331.symm; replace z331 := z331.symm; subst l331 y331 z331
    obtain ⟨rfl, rfl, e331⟩ := hQ331
    have N331 := Fr.app N330 (Fr.nil n0)
    refine own_via st331 ?_
    show own_Fin p e below _ (T331.setTop (mkF m 218 #[.val (.int p1), .val (.int p2), .val (.int p3), .val (.int p4), .val (.int (Int32.ofNat ld)), .val (.int (1 : Int32)), .val (.int c0), .val (.int c1), .val (.int c2), .val (.ref b297), .val (.int (Int32.ofNat (ld + 1 + own_w c0))), .val (.ref y328s)] [(.int c0)]))
    refine o_ild X331 H at_218 rfl ?_
    refine o_icY X331 H at_220 (teq rfl).1 (pc' := 225) (by decide) (by decide) ?_
    refine o_ild X331 H at_225 rfl ?_
    refine o_ic X331 H at_227 (v := 1) rfl ?_
    refine o_icY X331 H at_228 (flt (by decide : ¬ ((1 : Int32) < (1 : Int32)))).2.2.2 (pc' := 244) (by decide) (by decide) ?_
    refine o_ild X331 H at_244 rfl ?_
    refine o_ic X331 H at_246 (v := 2) rfl ?_
    refine o_icY X331 H at_247 (flt (by decide : ¬ ((2 : Int32) < (1 : Int32)))).2.2.2 (pc' := 263) (by decide) (by decide) ?_
    refine o_ic X331 H at_263 (v := 1) rfl ?_
    exact own_ret (t := .boolean) X331 hx hlk hret rfl (Or.inl ⟨rfl, (by simp), _, rfl⟩) (hb hby at_264) (⟨rfl, N331⟩) (by decide) (by decide)
  · rw [hn]
    show own_Fin p e below _ (T313.setTop (mkF m 124 #[.val (.int p1), .val (.int p2), .val (.int p3), .val (.int p4), .val (.int (Int32.ofNat ld)), .val (.int (2 : Int32)), .val (.int c0), .val (.int c1), .val (.int c2), .val (.ref b297), .val (.int (Int32.ofNat (ld + 1))), .unset] []))
    refine o_ild X313 H at_124 rfl ?_
    refine o_ifN X313 H at_126 ((if0 _ _).trans (tlt (by decide : (0 : Int32) < (2 : Int32))).2.2.2) ?_
    refine o_ald X313 H at_129 rfl rfl ?_
    refine o_ild X313 H at_131 rfl ?_
    refine o_ild X313 H at_133 rfl ?_
    refine o_tc (argsL := [(.ref b297), (.int (Int32.ofNat (ld + 1))), (.int c0)]) (rest := []) X313 H hml hZ hown (ow hw 140 rfl) (ow hw 141 rfl) (ow hw 2 rfl) (ow hw 142 rfl) (backOf (W := 0) (rm29 l Z a0 hw [] b297 c0 k297 (ld + 1) ((own_buf).set (ld) 34) h313 n0 (by exact (Nat.le_trans y312 (Keep.of_wr W313).1)) V313 gn297 (by  omega) (by simp [own_putl, own_buf]) (own_u255 oc0)) hZ (ow hw 142 rfl) (ow hw 2 rfl) (by decide) (by decide)) (by decide) e313 pd_17 at_135 rfl rfl rfl rfl rfl (by decide) (by decide) fun _ T332 Lc332 X332 hQ332 => ?_
    obtain ⟨rfl, N332q, K332, Aq332⟩ := hQ332
    have N332 := Fr.app N313 N332q
    have y333 := ((((((y307.wr W308 gn297).wr W309 gn297).wr W310 gn297).wr W311 gn297).wr W313 gn297).keep K332 (allS gn297 all0))
    show own_Fin p e below _ (T332.setTop (mkF m 138 #[.val (.int p1), .val (.int p2), .val (.int p3), .val (.int p4), .val (.int (Int32.ofNat ld)), .val (.int (2 : Int32)), .val (.int c0), .val (.int c1), .val (.int c2), .val (.ref b297), .val (.int (Int32.ofNat (ld + 1))), .unset] [(.int (Int32.ofNat (ld + 1 + own_w c0)))]))
    refine o_ist X332 H at_138 (L' := #[.val (.int p1), .val (.int p2), .val (.int p3), .val (.int p4), .val (.int (Int32.ofNat ld)), .val (.int (2 : Int32)), .val (.int c0), .val (.int c1), .val (.int c2), .val (.ref b297), .val (.int (Int32.ofNat (ld + 1 + own_w c0))), .unset]) rfl ?_
    refine o_ild X332 H at_140 rfl ?_
    refine o_ic X332 H at_142 (v := 1) rfl ?_
    refine o_icN X332 H at_143 (tlt (by decide : (1 : Int32) < (2 : Int32))).2.2.2 ?_
    refine o_ald X332 H at_146 rfl rfl ?_
    refine o_ild X332 H at_148 rfl ?_
    refine o_ild X332 H at_150 rfl ?_
    refine o_tc (argsL := [(.ref b297), (.int (Int32.ofNat (ld + 1 + own_w c0))), (.int c1)]) (rest := []) X332 H hml hZ hown (ow hw 140 rfl) (ow hw 141 rfl) (ow hw 2 rfl) (ow hw 142 rfl) (backOf (W := 0) (rm29 l Z a0 hw [] b297 c1 k297 (ld + 1 + own_w c0) (own_put ((own_buf).set (ld) 34) (ld + 1) c0) T332.heap n0 (by exact (Nat.le_trans (Nat.le_trans y312 (Keep.of_wr W313).1) K332.1)) Aq332 gn297 (by have w0 := own_w12 c0; omega) (by simp [own_putl, own_buf]) (own_u255 oc1)) hZ (ow hw 142 rfl) (ow hw 2 rfl) (by decide) (by decide)) (by decide) rfl pd_17 at_152 rfl rfl rfl rfl rfl (by decide) (by decide) fun _ T334 Lc334 X334 hQ334 => ?_
    obtain ⟨rfl, N334q, K334, Aq334⟩ := hQ334
    have N334 := Fr.app N332 N334q
    show own_Fin p e below _ (T334.setTop (mkF m 155 #[.val (.int p1), .val (.int p2), .val (.int p3), .val (.int p4), .val (.int (Int32.ofNat ld)), .val (.int (2 : Int32)), .val (.int c0), .val (.int c1), .val (.int c2), .val (.ref b297), .val (.int (Int32.ofNat (ld + 1 + own_w c0))), .unset] [(.int (Int32.ofNat (ld + 1 + own_w c0 + own_w c1)))]))
    refine o_ist X334 H at_155 (L' := #[.val (.int p1), .val (.int p2), .val (.int p3), .val (.int p4), .val (.int (Int32.ofNat ld)), .val (.int (2 : Int32)), .val (.int c0), .val (.int c1), .val (.int c2), .val (.ref b297), .val (.int (Int32.ofNat (ld + 1 + own_w c0 + own_w c1))), .unset]) rfl ?_
    refine o_ild X334 H at_157 rfl ?_
    refine o_ic X334 H at_159 (v := 2) rfl ?_
    refine o_icY X334 H at_160 (flt (by decide : ¬ ((2 : Int32) < (2 : Int32)))).2.2.2 (pc' := 174) (by decide) (by decide) ?_
    refine o_ald X334 H at_174 rfl rfl ?_
    refine o_ild X334 H at_176 rfl ?_
    refine o_bi X334 H at_178 (v := 34) rfl ?_
    have w0 := own_w12 c0
    have w1 := own_w12 c1
    have cp335 : Arv Z T334.heap b297 k297 .char (11 : Int32) ((own_put (own_put ((own_buf).set (ld) 34) (ld + 1) c0) (ld + 1 + own_w c0) c1).map Value.int) (.int 0) := Aq334
    obtain ⟨cl335, Ar335, q335, S335, G335, H335, F335⟩ := cp335
    have hin335 : ¬ ((Int32.ofNat (ld + 1 + own_w c0 + own_w c1)) < 0 ∨ cl335.slots.size ≤ ((Int32.ofNat (ld + 1 + own_w c0 + own_w c1))).toNatClampNeg) := inb_of S335 (own_inr (by omega))
    obtain ⟨T335, h335, X335, e335, W335, st335⟩ := stC X334 hx hZ rfl Ar335 (j := (Int32.ofNat (ld + 1 + own_w c0 + own_w c1))) hin335 (g := (mkF m 180 #[.val (.int p1), .val (.int p2), .val (.int p3), .val (.int p4), .val (.int (Int32.ofNat ld)), .val (.int (2 : Int32)), .val (.int c0), .val (.int c1), .val (.int c2), .val (.ref b297), .val (.int (Int32.ofNat (ld + 1 + own_w c0 + own_w c1))), .unset] [(.int (34 : Int32)), (.int (Int32.ofNat (ld + 1 + own_w c0 + own_w c1))), (.ref b297)])) rfl rfl (hb hby at_180)
    have V335 : Arv Z h335 b297 k297 .char (11 : Int32) (((own_put (own_put ((own_buf).set (ld) 34) (ld + 1) c0) (ld + 1 + own_w c0) c1).set (ld + 1 + own_w c0 + own_w c1) 34).map Value.int) (.int 0) := by rw [List.map_set]; have q := Arv.set Ar335 q335 S335 G335 H335 F335 (fits_nar_char _) W335 (ld + 1 + own_w c0 + own_w c1) (own_clamp (by omega)) (by rw [List.length_map, show (own_put (own_put ((own_buf).set (ld) 34) (ld + 1) c0) (ld + 1 + own_w c0) c1).length = 11 by simp [own_putl, own_buf]]; omega); rw [own_narc (by decide : ¬ (34 : Int32) < 0 ∧ ¬ (255 : Int32) < 34)] at q; exact q
    have N335 := Fr.snoc X335 N334 gn297
    have y336 := (Nat.le_trans (Nat.le_trans (Nat.le_trans (Nat.le_trans y312 (Keep.of_wr W313).1) K332.1) K334.1) (Keep.of_wr W335).1)
    refine own_on st335 ?_
    show own_Fin p e below _ (T335.setTop (mkF m 181 #[.val (.int p1), .val (.int p2), .val (.int p3), .val (.int p4), .val (.int (Int32.ofNat ld)), .val (.int (2 : Int32)), .val (.int c0), .val (.int c1), .val (.int c2), .val (.ref b297), .val (.int (Int32.ofNat (ld + 1 + own_w c0 + own_w c1))), .unset] []))
    obtain ⟨T337, h337, X337, e337, E337, A337, D337, -, st337⟩ := newO X335 hx hZ hown (ow hw 5 rfl) (ow hw 6 rfl) (ow hw 7 rfl) e335 (g := (mkF m 181 #[.val (.int p1), .val (.int p2), .val (.int p3), .val (.int p4), .val (.int (Int32.ofNat ld)), .val (.int (2 : Int32)), .val (.int c0), .val (.int c1), .val (.int c2), .val (.ref b297), .val (.int (Int32.ofNat (ld + 1 + own_w c0 + own_w c1))), .unset] [])) rfl (hb hby at_181) (by decide) (by decide)
    obtain ⟨b337, g337⟩ : ∃ z, z = h335.size := ⟨_, rfl⟩
    rw [← g337] at A337 D337 st337
    have ne337_b297 : b297 ≠ b337 := own_ne_of (Z := Z) V335.lt g337
    have gn337 : n0 ≤ b337 := Nat.le_trans y336 (Nat.le_of_eq g337.symm)
    have F337_coder : Fld Z h337 b337 "java/lang/String" "coder" "B" (.int (0 : Int32)) := D337 (Or.inr (ow hw 31 rfl)) (ty := .byte) (by decide)
    have F337_value : Fld Z h337 b337 "java/lang/String" "value" "[B" .null := D337 (Or.inr (ow hw 33 rfl)) (ty := (.array .byte)) (by decide)
    refine own_on st337 ?_
    show own_Fin p e below _ (T337.setTop (mkF m 184 #[.val (.int p1), .val (.int p2), .val (.int p3), .val (.int p4), .val (.int (Int32.ofNat ld)), .val (.int (2 : Int32)), .val (.int c0), .val (.int c1), .val (.int c2), .val (.ref b297), .val (.int (Int32.ofNat (ld + 1 + own_w c0 + own_w c1))), .unset] [(.ref b337)]))
    refine o_dup X337 H at_184 rfl ?_
    refine o_ald X337 H at_185 rfl rfl ?_
    have hF338 : ((own_put (own_put ((own_buf).set (ld) 34) (ld + 1) c0) (ld + 1 + own_w c0) c1).set (ld + 1 + own_w c0 + own_w c1) 34) = (own_cs ld [(own_b c0, c0), (own_b c1, c1)] (9 - ld - own_w c0 - own_w c1)) := own_f2 hl3
    have V338 : Arv Z h337 b297 k297 .char (11 : Int32) ((own_cs ld [(own_b c0, c0), (own_b c1, c1)] (9 - ld - own_w c0 - own_w c1)).map Value.int) (.int 0) := by have q := (V335.ext E337); rw [hF338] at q; exact q
    have hL338 : (own_cs ld [(own_b c0, c0), (own_b c1, c1)] (9 - ld - own_w c0 - own_w c1)).length = 11 := by rw [← hF338]; simp [own_putl, own_buf]
    have hu338 : ∀ u ∈ [(own_b c0, c0), (own_b c1, c1)], own_unit u := List.forall_mem_cons.mpr ⟨oc0, List.forall_mem_cons.mpr ⟨oc1, fun _ q => nomatch q⟩⟩
    have rg338 := own_rng (ld := ld) (tl := (9 - ld - own_w c0 - own_w c1)) hu338
    obtain ⟨_, _, ⟨T338, L338, k338, n338⟩, -, X338, ⟨Lc338, hQ338, l338, y338, z338⟩, st338⟩ := X337.specialBack hx (y := (⟨"java/lang/String", "<init>", "([C)V"⟩ : MethodName)) rfl hown (mvT hZ (ow hw 8 rfl)) (mvT hZ (ow hw 9 rfl)) (mvT hZ (ow hw 10 rfl)) (by decide) (StrChars.Road.backV (W := 1) hZ (own_wV hw) (ow hw 6 rfl) (n0 := n0) (n := 11) gn337 (Nat.le_trans y336 E337.1) A337 F337_value F337_coder V338 (SC.ext (((y333.keep K334 (allS gn297 all0)).wr W335 gn297).ext E337).2) hz hL338 rfl (by decide) (by decide) rg338 rfl (by decide) (by decide)) (g := (mkF m 187 #[.val (.int p1), .val (.int p2), .val (.int p3), .val (.int p4), .val (.int (Int32.ofNat ld)), .val (.int (2 : Int32)), .val (.int c0), .val (.int c1), .val (.int c2), .val (.ref b297), .val (.int (Int32.ofNat (ld + 1 + own_w c0 + own_w c1))), .unset] [(.ref b297), (.ref b337), (.ref b337)])) rfl hml.symm (Steps.refl _) (a := b337) (argsL := [(.ref b297)]) (rest := [(.ref b337)]) (lenOf pd_15 rfl) rfl (o_mr rfl) (hb hby at_187) (fun _ _ => ⟨rfl, e337, (by decide : 2 + 1 ≤ _), (by decide : 15 + 11 ≤ _)⟩)
    dsimp only [Pt.U, Pt.locs, Pt.cells, Pt.slots] at X338 l338 y338 z338 st338 hQ338
    replace l338 := l338.symm; replace y338 := y338.symm; replace z338 := z338.symm; subst l338 y338 z338
    obtain ⟨rfl, N338q, K338, Eq338, Cq338, t338, kt338, gt338, kk338, nt338, Vq338, Aq338⟩ := hQ338
    have N338 := Fr.app N335 N338q
    have Aw338 : Arv Z T338.heap t338 kt338 .byte (11 : Int32) (((own_cs ld [(own_b c0, c0), (own_b c1, c1)] (9 - ld - own_w c0 - own_w c1)).map StrChars.lo8).map Value.int) (.int 0) := Aq338
    refine own_via st338 ?_
    show own_Fin p e below _ (T338.setTop (mkF m 190 #[.val (.int p1), .val (.int p2), .val (.int p3), .val (.int p4), .val (.int (Int32.ofNat ld)), .val (.int (2 : Int32)), .val (.int c0), .val (.int c1), .val (.int c2), .val (.ref b297), .val (.int (Int32.ofNat (ld + 1 + own_w c0 + own_w c1))), .unset] [(.ref b337)]))
    refine o_tc (argsL := [(.ref b337)]) (rest := []) X338 H hml hZ hown (ow hw 34 rfl) (ow hw 35 rfl) (ow hw 36 rfl) (ow hw 37 rfl) (backOf (W := 0) (rm8 l Z a0 hw [] b337 z fm t338 kt338 ld (9 - ld - own_w c0 - own_w c1) ([(own_b c0, c0), (own_b c1, c1)]) (11 : Int32) (((own_cs ld [(own_b c0, c0), (own_b c1, c1)] (9 - ld - own_w c0 - own_w c1)).map StrChars.lo8).map Value.int) T338.heap n0 (by exact (Nat.le_trans (Nat.le_trans y336 E337.1) K338.1)) hz ((((y333.keep K334 (allS gn297 all0)).wr W335 gn297).ext E337).keep K338 (allS gn337 all0)) SC SF hfm Eq338 Vq338 Cq338 Aw338 (own_cod hL338 (fun c q => (rg338 c q).2)) (own_r16 rg338) hl3 (by omega) (Nat.le_of_ble_eq_true rfl) hu338) hZ (ow hw 37 rfl) (ow hw 36 rfl) (by decide) (by decide)) (by decide) rfl pd_16 at_190 rfl rfl rfl rfl rfl (by decide) (by decide) fun _ T339 Lc339 X339 hQ339 => ?_
    obtain ⟨y339s, x339, kx339, rfl, N339q, K339, Eq339, Cq339, Vq339, Aq339⟩ := hQ339
    have N339 := Fr.app N338 N339q
    have Aw339 : Arv Z T339.heap x339 kx339 .byte (2 : Int32) (([c0, c1].map StrChars.lo8).map Value.int) (.int 0) := Aq339
    have rg340 : ∀ q_ ∈ [c0, c1], ¬ q_ < 0 ∧ ¬ (255 : Int32) < q_ := List.forall_mem_cons.mpr ⟨(own_u255 oc0), List.forall_mem_cons.mpr ⟨(own_u255 oc1), fun _ q => nomatch q⟩⟩
    show own_Fin p e below _ (T339.setTop (mkF m 193 #[.val (.int p1), .val (.int p2), .val (.int p3), .val (.int p4), .val (.int (Int32.ofNat ld)), .val (.int (2 : Int32)), .val (.int c0), .val (.int c1), .val (.int c2), .val (.ref b297), .val (.int (Int32.ofNat (ld + 1 + own_w c0 + own_w c1))), .unset] [(.ref y339s)]))
    refine o_ast X339 H at_193 (L' := #[.val (.int p1), .val (.int p2), .val (.int p3), .val (.int p4), .val (.int (Int32.ofNat ld)), .val (.int (2 : Int32)), .val (.int c0), .val (.int c1), .val (.int c2), .val (.ref b297), .val (.int (Int32.ofNat (ld + 1 + own_w c0 + own_w c1))), .val (.ref y339s)]) rfl rfl ?_
    refine o_ald X339 H at_195 rfl rfl ?_
    obtain ⟨cq341, kq341, q341a, q341b, q341c⟩ := isOf hZ rfl Eq339
    obtain ⟨_, _, ⟨T341, L341, k341, n341⟩, -, X341, ⟨Lc341, hQ341, l341, y341, z341⟩, st341⟩ := X339.virtualBack hx (y := (⟨"java/lang/String", "length", "()I"⟩ : MethodName)) (z := (⟨"java/lang/String", "length", "()I"⟩ : MethodName)) hown (mvT hZ (ow hw 139 rfl)) (mvT hZ (ow hw 39 rfl)) (notFace_of_selects (args := #[]) (mvT hZ (ow hw 41 rfl))) (mvT hZ (ow hw 41 rfl)) (mvT hZ (ow hw 40 rfl)) (by decide) (StrChars.Road.lenW (W := 0) hZ (own_wL hw) (ow hw 6 rfl) Eq339 Vq339 Cq339 Aw339 (own_cod (cs := [c0, c1]) (n := 2) rfl (fun c q => (rg340 c q).2)) (own_r16 rg340) (SC.ext (((((y333.keep K334 (allS gn297 all0)).wr W335 gn297).ext E337).keep K338 (allS gn337 all0)).keep K339 all0).2) hz (Nat.le_of_ble_eq_true rfl) (by decide) (by decide)) q341a q341c (g := (mkF m 197 #[.val (.int p1), .val (.int p2), .val (.int p3), .val (.int p4), .val (.int (Int32.ofNat ld)), .val (.int (2 : Int32)), .val (.int c0), .val (.int c1), .val (.int c2), .val (.ref b297), .val (.int (Int32.ofNat (ld + 1 + own_w c0 + own_w c1))), .val (.ref y339s)] [(.ref y339s)])) rfl hml.symm (Steps.refl _) (argsL := []) (rest := []) (lenOf pd_1 rfl) rfl (o_mr rfl) (hb hby at_197) (fun _ _ => ⟨rfl, rfl, (by decide : 7 + 0 ≤ _), (by decide : 53 + 0 ≤ _)⟩)
    dsimp only [Pt.U, Pt.locs, Pt.cells, Pt.slots] at X341 l341 y341 z341 st341 hQ341
    replace l341 := l341.symm; replace y341 := y341.symm; replace z341 := z341.symm; subst l341 y341 z341
    obtain ⟨rfl, rfl, e341⟩ := hQ341
    have N341 := Fr.app N339 (Fr.nil n0)
    refine own_via st341 ?_
    show own_Fin p e below _ (T341.setTop (mkF m 200 #[.val (.int p1), .val (.int p2), .val (.int p3), .val (.int p4), .val (.int (Int32.ofNat ld)), .val (.int (2 : Int32)), .val (.int c0), .val (.int c1), .val (.int c2), .val (.ref b297), .val (.int (Int32.ofNat (ld + 1 + own_w c0 + own_w c1))), .val (.ref y339s)] [(.int (2 : Int32))]))
    refine o_ild X341 H at_200 rfl ?_
    refine o_icY X341 H at_202 (teq (by decide : (2 : Int32) = (2 : Int32))).1 (pc' := 207) (by decide) (by decide) ?_
    refine o_ild X341 H at_207 rfl ?_
    refine o_ifN X341 H at_209 ((if0 _ _).trans (tlt (by decide : (0 : Int32) < (2 : Int32))).2.2.2) ?_
    refine o_ald X341 H at_212 rfl rfl ?_
    refine o_ic X341 H at_214 (v := 0) rfl ?_
    obtain ⟨cq342, kq342, q342a, q342b, q342c⟩ := isOf hZ e341 Eq339
    obtain ⟨_, _, ⟨T342, L342, k342, n342⟩, -, X342, ⟨Lc342, hQ342, l342, y342, z342⟩, st342⟩ := X341.virtualBack hx (y := (⟨"java/lang/String", "charAt", "(I)C"⟩ : MethodName)) (z := (⟨"java/lang/String", "charAt", "(I)C"⟩ : MethodName)) hown (mvT hZ (ow hw 161 rfl)) (mvT hZ (ow hw 49 rfl)) (notFace_of_selects (args := #[]) (mvT hZ (ow hw 51 rfl))) (mvT hZ (ow hw 51 rfl)) (mvT hZ (ow hw 50 rfl)) (by decide) (StrChars.Road.chN (W := 0) hZ (own_wC hw) (ow hw 6 rfl) Eq339 Vq339 Cq339 Aw339 (own_cod (cs := [c0, c1]) (n := 2) rfl (fun c q => (rg340 c q).2)) (own_r16 rg340) (SC.ext (((((y333.keep K334 (allS gn297 all0)).wr W335 gn297).ext E337).keep K338 (allS gn337 all0)).keep K339 all0).2) hz (SF.ext (((((y333.keep K334 (allS gn297 all0)).wr W335 gn297).ext E337).keep K338 (allS gn337 all0)).keep K339 all0).2) hfm (i := 0) (Nat.le_of_ble_eq_true rfl) (Nat.le_of_ble_eq_true rfl) rfl (by decide) (by decide)) q342a q342c (g := (mkF m 215 #[.val (.int p1), .val (.int p2), .val (.int p3), .val (.int p4), .val (.int (Int32.ofNat ld)), .val (.int (2 : Int32)), .val (.int c0), .val (.int c1), .val (.int c2), .val (.ref b297), .val (.int (Int32.ofNat (ld + 1 + own_w c0 + own_w c1))), .val (.ref y339s)] [(.int (0 : Int32)), (.ref y339s)])) rfl hml.symm (Steps.refl _) (argsL := [(.int (0 : Int32))]) (rest := []) (lenOf pd_11 rfl) rfl (o_mr rfl) (hb hby at_215) (fun _ _ => ⟨rfl, e341, (by decide : 7 + 0 ≤ _), (by decide : 53 + 0 ≤ _)⟩)
    dsimp only [Pt.U, Pt.locs, Pt.cells, Pt.slots] at X342 l342 y342 z342 st342 hQ342
    replace l342 := l342.symm; replace y342 := y342.symm; replace z342 := z342.symm; subst l342 y342 z342
    obtain ⟨rfl, rfl, e342⟩ := hQ342
    have N342 := Fr.app N341 (Fr.nil n0)
    refine own_via st342 ?_
    show own_Fin p e below _ (T342.setTop (mkF m 218 #[.val (.int p1), .val (.int p2), .val (.int p3), .val (.int p4), .val (.int (Int32.ofNat ld)), .val (.int (2 : Int32)), .val (.int c0), .val (.int c1), .val (.int c2), .val (.ref b297), .val (.int (Int32.ofNat (ld + 1 + own_w c0 + own_w c1))), .val (.ref y339s)] [(.int c0)]))
    refine o_ild X342 H at_218 rfl ?_
    refine o_icY X342 H at_220 (teq rfl).1 (pc' := 225) (by decide) (by decide) ?_
    refine o_ild X342 H at_225 rfl ?_
    refine o_ic X342 H at_227 (v := 1) rfl ?_
    refine o_icN X342 H at_228 (tlt (by decide : (1 : Int32) < (2 : Int32))).2.2.2 ?_
    refine o_ald X342 H at_231 rfl rfl ?_
    refine o_ic X342 H at_233 (v := 1) rfl ?_
    obtain ⟨cq343, kq343, q343a, q343b, q343c⟩ := isOf hZ e342 Eq339
    obtain ⟨_, _, ⟨T343, L343, k343, n343⟩, -, X343, ⟨Lc343, hQ343, l343, y343, z343⟩, st343⟩ := X342.virtualBack hx (y := (⟨"java/lang/String", "charAt", "(I)C"⟩ : MethodName)) (z := (⟨"java/lang/String", "charAt", "(I)C"⟩ : MethodName)) hown (mvT hZ (ow hw 161 rfl)) (mvT hZ (ow hw 49 rfl)) (notFace_of_selects (args := #[]) (mvT hZ (ow hw 51 rfl))) (mvT hZ (ow hw 51 rfl)) (mvT hZ (ow hw 50 rfl)) (by decide) (StrChars.Road.chN (W := 0) hZ (own_wC hw) (ow hw 6 rfl) Eq339 Vq339 Cq339 Aw339 (own_cod (cs := [c0, c1]) (n := 2) rfl (fun c q => (rg340 c q).2)) (own_r16 rg340) (SC.ext (((((y333.keep K334 (allS gn297 all0)).wr W335 gn297).ext E337).keep K338 (allS gn337 all0)).keep K339 all0).2) hz (SF.ext (((((y333.keep K334 (allS gn297 all0)).wr W335 gn297).ext E337).keep K338 (allS gn337 all0)).keep K339 all0).2) hfm (i := 1) (Nat.le_of_ble_eq_true rfl) (Nat.le_of_ble_eq_true rfl) rfl (by decide) (by decide)) q343a q343c (g := (mkF m 234 #[.val (.int p1), .val (.int p2), .val (.int p3), .val (.int p4), .val (.int (Int32.ofNat ld)), .val (.int (2 : Int32)), .val (.int c0), .val (.int c1), .val (.int c2), .val (.ref b297), .val (.int (Int32.ofNat (ld + 1 + own_w c0 + own_w c1))), .val (.ref y339s)] [(.int (1 : Int32)), (.ref y339s)])) rfl hml.symm (Steps.refl _) (argsL := [(.int (1 : Int32))]) (rest := []) (lenOf pd_11 rfl) rfl (o_mr rfl) (hb hby at_234) (fun _ _ => ⟨rfl, e342, (by decide : 7 + 0 ≤ _), (by decide : 53 + 0 ≤ _)⟩)
    dsimp only [Pt.U, Pt.locs, Pt.cells, Pt.slots] at X343 l343 y343 z343 st343 hQ343
    replace l343 := l343.symm; replace y343 := y343.symm; replace z343 := z343.symm; subst l343 y343 z343
    obtain ⟨rfl, rfl, e343⟩ := hQ343
    have N343 := Fr.app N342 (Fr.nil n0)
    refine own_via st343 ?_
    show own_Fin p e below _ (T343.setTop (mkF m 237 #[.val (.int p1), .val (.int p2), .val (.int p3), .val (.int p4), .val (.int (Int32.ofNat ld)), .val (.int (2 : Int32)), .val (.int c0), .val (.int c1), .val (.int c2), .val (.ref b297), .val (.int (Int32.ofNat (ld + 1 + own_w c0 + own_w c1))), .val (.ref y339s)] [(.int c1)]))
    refine o_ild X343 H at_237 rfl ?_
    refine o_icY X343 H at_239 (teq rfl).1 (pc' := 244) (by decide) (by decide) ?_
    refine o_ild X343 H at_244 rfl ?_
    refine o_ic X343 H at_246 (v := 2) rfl ?_
    refine o_icY X343 H at_247 (flt (by decide : ¬ ((2 : Int32) < (2 : Int32)))).2.2.2 (pc' := 263) (by decide) (by decide) ?_
    refine o_ic X343 H at_263 (v := 1) rfl ?_
    exact own_ret (t := .boolean) X343 hx hlk hret rfl (Or.inl ⟨rfl, (by simp), _, rfl⟩) (hb hby at_264) (⟨rfl, N343⟩) (by decide) (by decide)
  · rw [hn]
    show own_Fin p e below _ (T313.setTop (mkF m 124 #[.val (.int p1), .val (.int p2), .val (.int p3), .val (.int p4), .val (.int (Int32.ofNat ld)), .val (.int (3 : Int32)), .val (.int c0), .val (.int c1), .val (.int c2), .val (.ref b297), .val (.int (Int32.ofNat (ld + 1))), .unset] []))
    refine o_ild X313 H at_124 rfl ?_
    refine o_ifN X313 H at_126 ((if0 _ _).trans (tlt (by decide : (0 : Int32) < (3 : Int32))).2.2.2) ?_
    refine o_ald X313 H at_129 rfl rfl ?_
    refine o_ild X313 H at_131 rfl ?_
    refine o_ild X313 H at_133 rfl ?_
    refine o_tc (argsL := [(.ref b297), (.int (Int32.ofNat (ld + 1))), (.int c0)]) (rest := []) X313 H hml hZ hown (ow hw 140 rfl) (ow hw 141 rfl) (ow hw 2 rfl) (ow hw 142 rfl) (backOf (W := 0) (rm29 l Z a0 hw [] b297 c0 k297 (ld + 1) ((own_buf).set (ld) 34) h313 n0 (by exact (Nat.le_trans y312 (Keep.of_wr W313).1)) V313 gn297 (by  omega) (by simp [own_putl, own_buf]) (own_u255 oc0)) hZ (ow hw 142 rfl) (ow hw 2 rfl) (by decide) (by decide)) (by decide) e313 pd_17 at_135 rfl rfl rfl rfl rfl (by decide) (by decide) fun _ T344 Lc344 X344 hQ344 => ?_
    obtain ⟨rfl, N344q, K344, Aq344⟩ := hQ344
    have N344 := Fr.app N313 N344q
    have y345 := ((((((y307.wr W308 gn297).wr W309 gn297).wr W310 gn297).wr W311 gn297).wr W313 gn297).keep K344 (allS gn297 all0))
    show own_Fin p e below _ (T344.setTop (mkF m 138 #[.val (.int p1), .val (.int p2), .val (.int p3), .val (.int p4), .val (.int (Int32.ofNat ld)), .val (.int (3 : Int32)), .val (.int c0), .val (.int c1), .val (.int c2), .val (.ref b297), .val (.int (Int32.ofNat (ld + 1))), .unset] [(.int (Int32.ofNat (ld + 1 + own_w c0)))]))
    refine o_ist X344 H at_138 (L' := #[.val (.int p1), .val (.int p2), .val (.int p3), .val (.int p4), .val (.int (Int32.ofNat ld)), .val (.int (3 : Int32)), .val (.int c0), .val (.int c1), .val (.int c2), .val (.ref b297), .val (.int (Int32.ofNat (ld + 1 + own_w c0))), .unset]) rfl ?_
    refine o_ild X344 H at_140 rfl ?_
    refine o_ic X344 H at_142 (v := 1) rfl ?_
    refine o_icN X344 H at_143 (tlt (by decide : (1 : Int32) < (3 : Int32))).2.2.2 ?_
    refine o_ald X344 H at_146 rfl rfl ?_
    refine o_ild X344 H at_148 rfl ?_
    refine o_ild X344 H at_150 rfl ?_
    refine o_tc (argsL := [(.ref b297), (.int (Int32.ofNat (ld + 1 + own_w c0))), (.int c1)]) (rest := []) X344 H hml hZ hown (ow hw 140 rfl) (ow hw 141 rfl) (ow hw 2 rfl) (ow hw 142 rfl) (backOf (W := 0) (rm29 l Z a0 hw [] b297 c1 k297 (ld + 1 + own_w c0) (own_put ((own_buf).set (ld) 34) (ld + 1) c0) T344.heap n0 (by exact (Nat.le_trans (Nat.le_trans y312 (Keep.of_wr W313).1) K344.1)) Aq344 gn297 (by have w0 := own_w12 c0; omega) (by simp [own_putl, own_buf]) (own_u255 oc1)) hZ (ow hw 142 rfl) (ow hw 2 rfl) (by decide) (by decide)) (by decide) rfl pd_17 at_152 rfl rfl rfl rfl rfl (by decide) (by decide) fun _ T346 Lc346 X346 hQ346 => ?_
    obtain ⟨rfl, N346q, K346, Aq346⟩ := hQ346
    have N346 := Fr.app N344 N346q
    show own_Fin p e below _ (T346.setTop (mkF m 155 #[.val (.int p1), .val (.int p2), .val (.int p3), .val (.int p4), .val (.int (Int32.ofNat ld)), .val (.int (3 : Int32)), .val (.int c0), .val (.int c1), .val (.int c2), .val (.ref b297), .val (.int (Int32.ofNat (ld + 1 + own_w c0))), .unset] [(.int (Int32.ofNat (ld + 1 + own_w c0 + own_w c1)))]))
    refine o_ist X346 H at_155 (L' := #[.val (.int p1), .val (.int p2), .val (.int p3), .val (.int p4), .val (.int (Int32.ofNat ld)), .val (.int (3 : Int32)), .val (.int c0), .val (.int c1), .val (.int c2), .val (.ref b297), .val (.int (Int32.ofNat (ld + 1 + own_w c0 + own_w c1))), .unset]) rfl ?_
    refine o_ild X346 H at_157 rfl ?_
    refine o_ic X346 H at_159 (v := 2) rfl ?_
    refine o_icN X346 H at_160 (tlt (by decide : (2 : Int32) < (3 : Int32))).2.2.2 ?_
    refine o_ald X346 H at_163 rfl rfl ?_
    refine o_ild X346 H at_165 rfl ?_
    refine o_ild X346 H at_167 rfl ?_
    refine o_tc (argsL := [(.ref b297), (.int (Int32.ofNat (ld + 1 + own_w c0 + own_w c1))), (.int c2)]) (rest := []) X346 H hml hZ hown (ow hw 140 rfl) (ow hw 141 rfl) (ow hw 2 rfl) (ow hw 142 rfl) (backOf (W := 0) (rm29 l Z a0 hw [] b297 c2 k297 (ld + 1 + own_w c0 + own_w c1) (own_put (own_put ((own_buf).set (ld) 34) (ld + 1) c0) (ld + 1 + own_w c0) c1) T346.heap n0 (by exact (Nat.le_trans (Nat.le_trans (Nat.le_trans y312 (Keep.of_wr W313).1) K344.1) K346.1)) Aq346 gn297 (by have w0 := own_w12 c0; have w1 := own_w12 c1; omega) (by simp [own_putl, own_buf]) (own_u255 oc2)) hZ (ow hw 142 rfl) (ow hw 2 rfl) (by decide) (by decide)) (by decide) rfl pd_17 at_169 rfl rfl rfl rfl rfl (by decide) (by decide) fun _ T347 Lc347 X347 hQ347 => ?_
    obtain ⟨rfl, N347q, K347, Aq347⟩ := hQ347
    have N347 := Fr.app N346 N347q
    show own_Fin p e below _ (T347.setTop (mkF m 172 #[.val (.int p1), .val (.int p2), .val (.int p3), .val (.int p4), .val (.int (Int32.ofNat ld)), .val (.int (3 : Int32)), .val (.int c0), .val (.int c1), .val (.int c2), .val (.ref b297), .val (.int (Int32.ofNat (ld + 1 + own_w c0 + own_w c1))), .unset] [(.int (Int32.ofNat (ld + 1 + own_w c0 + own_w c1 + own_w c2)))]))
    refine o_ist X347 H at_172 (L' := #[.val (.int p1), .val (.int p2), .val (.int p3), .val (.int p4), .val (.int (Int32.ofNat ld)), .val (.int (3 : Int32)), .val (.int c0), .val (.int c1), .val (.int c2), .val (.ref b297), .val (.int (Int32.ofNat (ld + 1 + own_w c0 + own_w c1 + own_w c2))), .unset]) rfl ?_
    refine o_ald X347 H at_174 rfl rfl ?_
    refine o_ild X347 H at_176 rfl ?_
    refine o_bi X347 H at_178 (v := 34) rfl ?_
    have w0 := own_w12 c0
    have w1 := own_w12 c1
    have w2 := own_w12 c2
    have cp348 : Arv Z T347.heap b297 k297 .char (11 : Int32) ((own_put (own_put (own_put ((own_buf).set (ld) 34) (ld + 1) c0) (ld + 1 + own_w c0) c1) (ld + 1 + own_w c0 + own_w c1) c2).map Value.int) (.int 0) := Aq347
    obtain ⟨cl348, Ar348, q348, S348, G348, H348, F348⟩ := cp348
    have hin348 : ¬ ((Int32.ofNat (ld + 1 + own_w c0 + own_w c1 + own_w c2)) < 0 ∨ cl348.slots.size ≤ ((Int32.ofNat (ld + 1 + own_w c0 + own_w c1 + own_w c2))).toNatClampNeg) := inb_of S348 (own_inr (by omega))
    obtain ⟨T348, h348, X348, e348, W348, st348⟩ := stC X347 hx hZ rfl Ar348 (j := (Int32.ofNat (ld + 1 + own_w c0 + own_w c1 + own_w c2))) hin348 (g := (mkF m 180 #[.val (.int p1), .val (.int p2), .val (.int p3), .val (.int p4), .val (.int (Int32.ofNat ld)), .val (.int (3 : Int32)), .val (.int c0), .val (.int c1), .val (.int c2), .val (.ref b297), .val (.int (Int32.ofNat (ld + 1 + own_w c0 + own_w c1 + own_w c2))), .unset] [(.int (34 : Int32)), (.int (Int32.ofNat (ld + 1 + own_w c0 + own_w c1 + own_w c2))), (.ref b297)])) rfl rfl (hb hby at_180)
    have V348 : Arv Z h348 b297 k297 .char (11 : Int32) (((own_put (own_put (own_put ((own_buf).set (ld) 34) (ld + 1) c0) (ld + 1 + own_w c0) c1) (ld + 1 + own_w c0 + own_w c1) c2).set (ld + 1 + own_w c0 + own_w c1 + own_w c2) 34).map Value.int) (.int 0) := by rw [List.map_set]; have q := Arv.set Ar348 q348 S348 G348 H348 F348 (fits_nar_char _) W348 (ld + 1 + own_w c0 + own_w c1 + own_w c2) (own_clamp (by omega)) (by rw [List.length_map, show (own_put (own_put (own_put ((own_buf).set (ld) 34) (ld + 1) c0) (ld + 1 + own_w c0) c1) (ld + 1 + own_w c0 + own_w c1) c2).length = 11 by simp [own_putl, own_buf]]; omega); rw [own_narc (by decide : ¬ (34 : Int32) < 0 ∧ ¬ (255 : Int32) < 34)] at q; exact q
    have N348 := Fr.snoc X348 N347 gn297
    have y349 := (Nat.le_trans (Nat.le_trans (Nat.le_trans (Nat.le_trans (Nat.le_trans y312 (Keep.of_wr W313).1) K344.1) K346.1) K347.1) (Keep.of_wr W348).1)
    refine own_on st348 ?_
    show own_Fin p e below _ (T348.setTop (mkF m 181 #[.val (.int p1), .val (.int p2), .val (.int p3), .val (.int p4), .val (.int (Int32.ofNat ld)), .val (.int (3 : Int32)), .val (.int c0), .val (.int c1), .val (.int c2), .val (.ref b297), .val (.int (Int32.ofNat (ld + 1 + own_w c0 + own_w c1 + own_w c2))), .unset] []))
    obtain ⟨T350, h350, X350, e350, E350, A350, D350, -, st350⟩ := newO X348 hx hZ hown (ow hw 5 rfl) (ow hw 6 rfl) (ow hw 7 rfl) e348 (g := (mkF m 181 #[.val (.int p1), .val (.int p2), .val (.int p3), .val (.int p4), .val (.int (Int32.ofNat ld)), .val (.int (3 : Int32)), .val (.int c0), .val (.int c1), .val (.int c2), .val (.ref b297), .val (.int (Int32.ofNat (ld + 1 + own_w c0 + own_w c1 + own_w c2))), .unset] [])) rfl (hb hby at_181) (by decide) (by decide)
    obtain ⟨b350, g350⟩ : ∃ z, z = h348.size := ⟨_, rfl⟩
    rw [← g350] at A350 D350 st350
    have ne350_b297 : b297 ≠ b350 := own_ne_of (Z := Z) V348.lt g350
    have gn350 : n0 ≤ b350 := Nat.le_trans y349 (Nat.le_of_eq g350.symm)
    have F350_coder : Fld Z h350 b350 "java/lang/String" "coder" "B" (.int (0 : Int32)) := D350 (Or.inr (ow hw 31 rfl)) (ty := .byte) (by decide)
    have F350_value : Fld Z h350 b350 "java/lang/String" "value" "[B" .null := D350 (Or.inr (ow hw 33 rfl)) (ty := (.array .byte)) (by decide)
    refine own_on st350 ?_
    show own_Fin p e below _ (T350.setTop (mkF m 184 #[.val (.int p1), .val (.int p2), .val (.int p3), .val (.int p4), .val (.int (Int32.ofNat ld)), .val (.int (3 : Int32)), .val (.int c0), .val (.int c1), .val (.int c2), .val (.ref b297), .val (.int (Int32.ofNat (ld + 1 + own_w c0 + own_w c1 + own_w c2))), .unset] [(.ref b350)]))
    refine o_dup X350 H at_184 rfl ?_
    refine o_ald X350 H at_185 rfl rfl ?_
    have hF351 : ((own_put (own_put (own_put ((own_buf).set (ld) 34) (ld + 1) c0) (ld + 1 + own_w c0) c1) (ld + 1 + own_w c0 + own_w c1) c2).set (ld + 1 + own_w c0 + own_w c1 + own_w c2) 34) = (own_cs ld [(own_b c0, c0), (own_b c1, c1), (own_b c2, c2)] (9 - ld - own_w c0 - own_w c1 - own_w c2)) := own_f3 hl3
    have V351 : Arv Z h350 b297 k297 .char (11 : Int32) ((own_cs ld [(own_b c0, c0), (own_b c1, c1), (own_b c2, c2)] (9 - ld - own_w c0 - own_w c1 - own_w c2)).map Value.int) (.int 0) := by have q := (V348.ext E350); rw [hF351] at q; exact q
    have hL351 : (own_cs ld [(own_b c0, c0), (own_b c1, c1), (own_b c2, c2)] (9 - ld - own_w c0 - own_w c1 - own_w c2)).length = 11 := by rw [← hF351]; simp [own_putl, own_buf]
    have hu351 : ∀ u ∈ [(own_b c0, c0), (own_b c1, c1), (own_b c2, c2)], own_unit u := List.forall_mem_cons.mpr ⟨oc0, List.forall_mem_cons.mpr ⟨oc1, List.forall_mem_cons.mpr ⟨oc2, fun _ q => nomatch q⟩⟩⟩
    have rg351 := own_rng (ld := ld) (tl := (9 - ld - own_w c0 - own_w c1 - own_w c2)) hu351
    obtain ⟨_, _, ⟨T351, L351, k351, n351⟩, -, X351, ⟨Lc351, hQ351, l351, y351, z351⟩, st351⟩ := X350.specialBack hx (y := (⟨"java/lang/String", "<init>", "([C)V"⟩ : MethodName)) rfl hown (mvT hZ (ow hw 8 rfl)) (mvT hZ (ow hw 9 rfl)) (mvT hZ (ow hw 10 rfl)) (by decide) (StrChars.Road.backV (W := 1) hZ (own_wV hw) (ow hw 6 rfl) (n0 := n0) (n := 11) gn350 (Nat.le_trans y349 E350.1) A350 F350_value F350_coder V351 (SC.ext ((((y345.keep K346 (allS gn297 all0)).keep K347 (allS gn297 all0)).wr W348 gn297).ext E350).2) hz hL351 rfl (by decide) (by decide) rg351 rfl (by decide) (by decide)) (g := (mkF m 187 #[.val (.int p1), .val (.int p2), .val (.int p3), .val (.int p4), .val (.int (Int32.ofNat ld)), .val (.int (3 : Int32)), .val (.int c0), .val (.int c1), .val (.int c2), .val (.ref b297), .val (.int (Int32.ofNat (ld + 1 + own_w c0 + own_w c1 + own_w c2))), .unset] [(.ref b297), (.ref b350), (.ref b350)])) rfl hml.symm (Steps.refl _) (a := b350) (argsL := [(.ref b297)]) (rest := [(.ref b350)]) (lenOf pd_15 rfl) rfl (o_mr rfl) (hb hby at_187) (fun _ _ => ⟨rfl, e350, (by decide : 2 + 1 ≤ _), (by decide : 15 + 11 ≤ _)⟩)
    dsimp only [Pt.U, Pt.locs, Pt.cells, Pt.slots] at X351 l351 y351 z351 st351 hQ351
    replace l351 := l351.symm; replace y351 := y351.symm; replace z351 := z351.symm; subst l351 y351 z351
    obtain ⟨rfl, N351q, K351, Eq351, Cq351, t351, kt351, gt351, kk351, nt351, Vq351, Aq351⟩ := hQ351
    have N351 := Fr.app N348 N351q
    have y352 := (((((y345.keep K346 (allS gn297 all0)).keep K347 (allS gn297 all0)).wr W348 gn297).ext E350).keep K351 (allS gn350 all0))
    have Aw351 : Arv Z T351.heap t351 kt351 .byte (11 : Int32) (((own_cs ld [(own_b c0, c0), (own_b c1, c1), (own_b c2, c2)] (9 - ld - own_w c0 - own_w c1 - own_w c2)).map StrChars.lo8).map Value.int) (.int 0) := Aq351
    refine own_via st351 ?_
    show own_Fin p e below _ (T351.setTop (mkF m 190 #[.val (.int p1), .val (.int p2), .val (.int p3), .val (.int p4), .val (.int (Int32.ofNat ld)), .val (.int (3 : Int32)), .val (.int c0), .val (.int c1), .val (.int c2), .val (.ref b297), .val (.int (Int32.ofNat (ld + 1 + own_w c0 + own_w c1 + own_w c2))), .unset] [(.ref b350)]))
    refine o_tc (argsL := [(.ref b350)]) (rest := []) X351 H hml hZ hown (ow hw 34 rfl) (ow hw 35 rfl) (ow hw 36 rfl) (ow hw 37 rfl) (backOf (W := 0) (rm8 l Z a0 hw [] b350 z fm t351 kt351 ld (9 - ld - own_w c0 - own_w c1 - own_w c2) ([(own_b c0, c0), (own_b c1, c1), (own_b c2, c2)]) (11 : Int32) (((own_cs ld [(own_b c0, c0), (own_b c1, c1), (own_b c2, c2)] (9 - ld - own_w c0 - own_w c1 - own_w c2)).map StrChars.lo8).map Value.int) T351.heap n0 (by exact (Nat.le_trans (Nat.le_trans y349 E350.1) K351.1)) hz y352 SC SF hfm Eq351 Vq351 Cq351 Aw351 (own_cod hL351 (fun c q => (rg351 c q).2)) (own_r16 rg351) hl3 (by omega) (Nat.le_of_ble_eq_true rfl) hu351) hZ (ow hw 37 rfl) (ow hw 36 rfl) (by decide) (by decide)) (by decide) rfl pd_16 at_190 rfl rfl rfl rfl rfl (by decide) (by decide) fun _ T353 Lc353 X353 hQ353 => ?_
    obtain ⟨y353s, x353, kx353, rfl, N353q, K353, Eq353, Cq353, Vq353, Aq353⟩ := hQ353
    have N353 := Fr.app N351 N353q
    have Aw353 : Arv Z T353.heap x353 kx353 .byte (3 : Int32) (([c0, c1, c2].map StrChars.lo8).map Value.int) (.int 0) := Aq353
    have rg354 : ∀ q_ ∈ [c0, c1, c2], ¬ q_ < 0 ∧ ¬ (255 : Int32) < q_ := List.forall_mem_cons.mpr ⟨(own_u255 oc0), List.forall_mem_cons.mpr ⟨(own_u255 oc1), List.forall_mem_cons.mpr ⟨(own_u255 oc2), fun _ q => nomatch q⟩⟩⟩
    show own_Fin p e below _ (T353.setTop (mkF m 193 #[.val (.int p1), .val (.int p2), .val (.int p3), .val (.int p4), .val (.int (Int32.ofNat ld)), .val (.int (3 : Int32)), .val (.int c0), .val (.int c1), .val (.int c2), .val (.ref b297), .val (.int (Int32.ofNat (ld + 1 + own_w c0 + own_w c1 + own_w c2))), .unset] [(.ref y353s)]))
    refine o_ast X353 H at_193 (L' := #[.val (.int p1), .val (.int p2), .val (.int p3), .val (.int p4), .val (.int (Int32.ofNat ld)), .val (.int (3 : Int32)), .val (.int c0), .val (.int c1), .val (.int c2), .val (.ref b297), .val (.int (Int32.ofNat (ld + 1 + own_w c0 + own_w c1 + own_w c2))), .val (.ref y353s)]) rfl rfl ?_
    refine o_ald X353 H at_195 rfl rfl ?_
    obtain ⟨cq355, kq355, q355a, q355b, q355c⟩ := isOf hZ rfl Eq353
    obtain ⟨_, _, ⟨T355, L355, k355, n355⟩, -, X355, ⟨Lc355, hQ355, l355, y355, z355⟩, st355⟩ := X353.virtualBack hx (y := (⟨"java/lang/String", "length", "()I"⟩ : MethodName)) (z := (⟨"java/lang/String", "length", "()I"⟩ : MethodName)) hown (mvT hZ (ow hw 139 rfl)) (mvT hZ (ow hw 39 rfl)) (notFace_of_selects (args := #[]) (mvT hZ (ow hw 41 rfl))) (mvT hZ (ow hw 41 rfl)) (mvT hZ (ow hw 40 rfl)) (by decide) (StrChars.Road.lenW (W := 0) hZ (own_wL hw) (ow hw 6 rfl) Eq353 Vq353 Cq353 Aw353 (own_cod (cs := [c0, c1, c2]) (n := 3) rfl (fun c q => (rg354 c q).2)) (own_r16 rg354) (SC.ext (y352.keep K353 all0).2) hz (Nat.le_of_ble_eq_true rfl) (by decide) (by decide)) q355a q355c (g := (mkF m 197 #[.val (.int p1), .val (.int p2), .val (.int p3), .val (.int p4), .val (.int (Int32.ofNat ld)), .val (.int (3 : Int32)), .val (.int c0), .val (.int c1), .val (.int c2), .val (.ref b297), .val (.int (Int32.ofNat (ld + 1 + own_w c0 + own_w c1 + own_w c2))), .val (.ref y353s)] [(.ref y353s)])) rfl hml.symm (Steps.refl _) (argsL := []) (rest := []) (lenOf pd_1 rfl) rfl (o_mr rfl) (hb hby at_197) (fun _ _ => ⟨rfl, rfl, (by decide : 7 + 0 ≤ _), (by decide : 53 + 0 ≤ _)⟩)
    dsimp only [Pt.U, Pt.locs, Pt.cells, Pt.slots] at X355 l355 y355 z355 st355 hQ355
    replace l355 := l355.symm; replace y355 := y355.symm; replace z355 := z355.symm; subst l355 y355 z355
    obtain ⟨rfl, rfl, e355⟩ := hQ355
    have N355 := Fr.app N353 (Fr.nil n0)
    refine own_via st355 ?_
    show own_Fin p e below _ (T355.setTop (mkF m 200 #[.val (.int p1), .val (.int p2), .val (.int p3), .val (.int p4), .val (.int (Int32.ofNat ld)), .val (.int (3 : Int32)), .val (.int c0), .val (.int c1), .val (.int c2), .val (.ref b297), .val (.int (Int32.ofNat (ld + 1 + own_w c0 + own_w c1 + own_w c2))), .val (.ref y353s)] [(.int (3 : Int32))]))
    refine o_ild X355 H at_200 rfl ?_
    refine o_icY X355 H at_202 (teq (by decide : (3 : Int32) = (3 : Int32))).1 (pc' := 207) (by decide) (by decide) ?_
    refine o_ild X355 H at_207 rfl ?_
    refine o_ifN X355 H at_209 ((if0 _ _).trans (tlt (by decide : (0 : Int32) < (3 : Int32))).2.2.2) ?_
    refine o_ald X355 H at_212 rfl rfl ?_
    refine o_ic X355 H at_214 (v := 0) rfl ?_
    obtain ⟨cq356, kq356, q356a, q356b, q356c⟩ := isOf hZ e355 Eq353
    obtain ⟨_, _, ⟨T356, L356, k356, n356⟩, -, X356, ⟨Lc356, hQ356, l356, y356, z356⟩, st356⟩ := X355.virtualBack hx (y := (⟨"java/lang/String", "charAt", "(I)C"⟩ : MethodName)) (z := (⟨"java/lang/String", "charAt", "(I)C"⟩ : MethodName)) hown (mvT hZ (ow hw 161 rfl)) (mvT hZ (ow hw 49 rfl)) (notFace_of_selects (args := #[]) (mvT hZ (ow hw 51 rfl))) (mvT hZ (ow hw 51 rfl)) (mvT hZ (ow hw 50 rfl)) (by decide) (StrChars.Road.chN (W := 0) hZ (own_wC hw) (ow hw 6 rfl) Eq353 Vq353 Cq353 Aw353 (own_cod (cs := [c0, c1, c2]) (n := 3) rfl (fun c q => (rg354 c q).2)) (own_r16 rg354) (SC.ext (y352.keep K353 all0).2) hz (SF.ext (y352.keep K353 all0).2) hfm (i := 0) (Nat.le_of_ble_eq_true rfl) (Nat.le_of_ble_eq_true rfl) rfl (by decide) (by decide)) q356a q356c (g := (mkF m 215 #[.val (.int p1), .val (.int p2), .val (.int p3), .val (.int p4), .val (.int (Int32.ofNat ld)), .val (.int (3 : Int32)), .val (.int c0), .val (.int c1), .val (.int c2), .val (.ref b297), .val (.int (Int32.ofNat (ld + 1 + own_w c0 + own_w c1 + own_w c2))), .val (.ref y353s)] [(.int (0 : Int32)), (.ref y353s)])) rfl hml.symm (Steps.refl _) (argsL := [(.int (0 : Int32))]) (rest := []) (lenOf pd_11 rfl) rfl (o_mr rfl) (hb hby at_215) (fun _ _ => ⟨rfl, e355, (by decide : 7 + 0 ≤ _), (by decide : 53 + 0 ≤ _)⟩)
    dsimp only [Pt.U, Pt.locs, Pt.cells, Pt.slots] at X356 l356 y356 z356 st356 hQ356
    replace l356 := l356.symm; replace y356 := y356.symm; replace z356 := z356.symm; subst l356 y356 z356
    obtain ⟨rfl, rfl, e356⟩ := hQ356
    have N356 := Fr.app N355 (Fr.nil n0)
    refine own_via st356 ?_
    show own_Fin p e below _ (T356.setTop (mkF m 218 #[.val (.int p1), .val (.int p2), .val (.int p3), .val (.int p4), .val (.int (Int32.ofNat ld)), .val (.int (3 : Int32)), .val (.int c0), .val (.int c1), .val (.int c2), .val (.ref b297), .val (.int (Int32.ofNat (ld + 1 + own_w c0 + own_w c1 + own_w c2))), .val (.ref y353s)] [(.int c0)]))
    refine o_ild X356 H at_218 rfl ?_
    refine o_icY X356 H at_220 (teq rfl).1 (pc' := 225) (by decide) (by decide) ?_
    refine o_ild X356 H at_225 rfl ?_
    refine o_ic X356 H at_227 (v := 1) rfl ?_
    refine o_icN X356 H at_228 (tlt (by decide : (1 : Int32) < (3 : Int32))).2.2.2 ?_
    refine o_ald X356 H at_231 rfl rfl ?_
    refine o_ic X356 H at_233 (v := 1) rfl ?_
    obtain ⟨cq357, kq357, q357a, q357b, q357c⟩ := isOf hZ e356 Eq353
    obtain ⟨_, _, ⟨T357, L357, k357, n357⟩, -, X357, ⟨Lc357, hQ357, l357, y357, z357⟩, st357⟩ := X356.virtualBack hx (y := (⟨"java/lang/String", "charAt", "(I)C"⟩ : MethodName)) (z := (⟨"java/lang/String", "charAt", "(I)C"⟩ : MethodName)) hown (mvT hZ (ow hw 161 rfl)) (mvT hZ (ow hw 49 rfl)) (notFace_of_selects (args := #[]) (mvT hZ (ow hw 51 rfl))) (mvT hZ (ow hw 51 rfl)) (mvT hZ (ow hw 50 rfl)) (by decide) (StrChars.Road.chN (W := 0) hZ (own_wC hw) (ow hw 6 rfl) Eq353 Vq353 Cq353 Aw353 (own_cod (cs := [c0, c1, c2]) (n := 3) rfl (fun c q => (rg354 c q).2)) (own_r16 rg354) (SC.ext (y352.keep K353 all0).2) hz (SF.ext (y352.keep K353 all0).2) hfm (i := 1) (Nat.le_of_ble_eq_true rfl) (Nat.le_of_ble_eq_true rfl) rfl (by decide) (by decide)) q357a q357c (g := (mkF m 234 #[.val (.int p1), .val (.int p2), .val (.int p3), .val (.int p4), .val (.int (Int32.ofNat ld)), .val (.int (3 : Int32)), .val (.int c0), .val (.int c1), .val (.int c2), .val (.ref b297), .val (.int (Int32.ofNat (ld + 1 + own_w c0 + own_w c1 + own_w c2))), .val (.ref y353s)] [(.int (1 : Int32)), (.ref y353s)])) rfl hml.symm (Steps.refl _) (argsL := [(.int (1 : Int32))]) (rest := []) (lenOf pd_11 rfl) rfl (o_mr rfl) (hb hby at_234) (fun _ _ => ⟨rfl, e356, (by decide : 7 + 0 ≤ _), (by decide : 53 + 0 ≤ _)⟩)
    dsimp only [Pt.U, Pt.locs, Pt.cells, Pt.slots] at X357 l357 y357 z357 st357 hQ357
    replace l357 := l357.symm; replace y357 := y357.symm; replace z357 := z357.symm; subst l357 y357 z357
    obtain ⟨rfl, rfl, e357⟩ := hQ357
    have N357 := Fr.app N356 (Fr.nil n0)
    refine own_via st357 ?_
    show own_Fin p e below _ (T357.setTop (mkF m 237 #[.val (.int p1), .val (.int p2), .val (.int p3), .val (.int p4), .val (.int (Int32.ofNat ld)), .val (.int (3 : Int32)), .val (.int c0), .val (.int c1), .val (.int c2), .val (.ref b297), .val (.int (Int32.ofNat (ld + 1 + own_w c0 + own_w c1 + own_w c2))), .val (.ref y353s)] [(.int c1)]))
    refine o_ild X357 H at_237 rfl ?_
    refine o_icY X357 H at_239 (teq rfl).1 (pc' := 244) (by decide) (by decide) ?_
    refine o_ild X357 H at_244 rfl ?_
    refine o_ic X357 H at_246 (v := 2) rfl ?_
    refine o_icN X357 H at_247 (tlt (by decide : (2 : Int32) < (3 : Int32))).2.2.2 ?_
    refine o_ald X357 H at_250 rfl rfl ?_
    refine o_ic X357 H at_252 (v := 2) rfl ?_
    obtain ⟨cq358, kq358, q358a, q358b, q358c⟩ := isOf hZ e357 Eq353
    obtain ⟨_, _, ⟨T358, L358, k358, n358⟩, -, X358, ⟨Lc358, hQ358, l358, y358, z358⟩, st358⟩ := X357.virtualBack hx (y := (⟨"java/lang/String", "charAt", "(I)C"⟩ : MethodName)) (z := (⟨"java/lang/String", "charAt", "(I)C"⟩ : MethodName)) hown (mvT hZ (ow hw 161 rfl)) (mvT hZ (ow hw 49 rfl)) (notFace_of_selects (args := #[]) (mvT hZ (ow hw 51 rfl))) (mvT hZ (ow hw 51 rfl)) (mvT hZ (ow hw 50 rfl)) (by decide) (StrChars.Road.chN (W := 0) hZ (own_wC hw) (ow hw 6 rfl) Eq353 Vq353 Cq353 Aw353 (own_cod (cs := [c0, c1, c2]) (n := 3) rfl (fun c q => (rg354 c q).2)) (own_r16 rg354) (SC.ext (y352.keep K353 all0).2) hz (SF.ext (y352.keep K353 all0).2) hfm (i := 2) (Nat.le_of_ble_eq_true rfl) (Nat.le_of_ble_eq_true rfl) rfl (by decide) (by decide)) q358a q358c (g := (mkF m 253 #[.val (.int p1), .val (.int p2), .val (.int p3), .val (.int p4), .val (.int (Int32.ofNat ld)), .val (.int (3 : Int32)), .val (.int c0), .val (.int c1), .val (.int c2), .val (.ref b297), .val (.int (Int32.ofNat (ld + 1 + own_w c0 + own_w c1 + own_w c2))), .val (.ref y353s)] [(.int (2 : Int32)), (.ref y353s)])) rfl hml.symm (Steps.refl _) (argsL := [(.int (2 : Int32))]) (rest := []) (lenOf pd_11 rfl) rfl (o_mr rfl) (hb hby at_253) (fun _ _ => ⟨rfl, e357, (by decide : 7 + 0 ≤ _), (by decide : 53 + 0 ≤ _)⟩)
    dsimp only [Pt.U, Pt.locs, Pt.cells, Pt.slots] at X358 l358 y358 z358 st358 hQ358
    replace l358 := l358.symm; replace y358 := y358.symm; replace z358 := z358.symm; subst l358 y358 z358
    obtain ⟨rfl, rfl, e358⟩ := hQ358
    have N358 := Fr.app N357 (Fr.nil n0)
    refine own_via st358 ?_
    show own_Fin p e below _ (T358.setTop (mkF m 256 #[.val (.int p1), .val (.int p2), .val (.int p3), .val (.int p4), .val (.int (Int32.ofNat ld)), .val (.int (3 : Int32)), .val (.int c0), .val (.int c1), .val (.int c2), .val (.ref b297), .val (.int (Int32.ofNat (ld + 1 + own_w c0 + own_w c1 + own_w c2))), .val (.ref y353s)] [(.int c2)]))
    refine o_ild X358 H at_256 rfl ?_
    refine o_icY X358 H at_258 (teq rfl).1 (pc' := 263) (by decide) (by decide) ?_
    refine o_ic X358 H at_263 (v := 1) rfl ?_
    exact own_ret (t := .boolean) X358 hx hlk hret rfl (Or.inl ⟨rfl, (by simp), _, rfl⟩) (hb hby at_264) (⟨rfl, N358⟩) (by decide) (by decide)
set_option maxRecDepth 65536 in
set_option maxHeartbeats 40000000 in
theorem comes_1 {Post : Tables → Env → Array Value → State → Outcome → State → Prop} (hpost : ∀ tb e args s v u, (limb_1_1.after args s (.returned v) u = true ∧ limb_1_2.after args s (.returned v) u = true ∧ True) → FrameEnd s (.returned v) u (Jvm.fieldLocs frame_1_writes args s ++ Jvm.arrayLocs frame_1_arrays args s ++ Jvm.staticLocs frame_1_statics s) 24 192 → Post tb e args s (.returned v) u) :
    ArmFor flags0 classFile x code maxLocals ret World_1 tables_1 room_1 Calls_1 rest_1 Pre_1 Post := by
  intro l hfl _ _ p e ha hc hk s m args below hf hA hF happ hP
  obtain ⟨hcalls, hrest, hpre⟩ := hP
  obtain ⟨-, -, -, hnamed, -, -, -, hat⟩ := (Spec.applies_iff hf).mp happ
  obtain ⟨hg, hn⟩ := and_e (Cond.before_iff.mp (show (Jvm.Cond.and given_1 narrow_1).before args s = true from hpre))
  obtain ⟨ga0l, ga0r⟩ := and_e hg
  obtain ⟨ga1l, ga1r⟩ := and_e ga0r
  obtain ⟨ga2l, ga2r⟩ := and_e ga1r
  obtain ⟨ga3l, ga3r⟩ := and_e ga2r
  obtain ⟨w0, w1, w2, w3, rfl⟩ : ∃ w0 w1 w2 w3 : Value, args = #[w0, w1, w2, w3] := by
    have hs : args.size = 4 := by simpa [Cond.value, given_1] using ga0l
    obtain ⟨L⟩ := args
    match L, hs with
    | [w0, w1, w2, w3], _ => exact ⟨w0, w1, w2, w3, rfl⟩
  have hw := fun d (hd : d ∈ tables_1) => atoms_spec (ws := Jvm.Cond.code x code maxLocals ret :: tables_1) hat d (List.mem_cons_of_mem _ hd)
  have hfit : Fit s := fun {y c} hc i hi => by
    obtain ⟨ha, rfl⟩ := Array.getElem?_eq_some_iff.mp hc
    have q := List.all_eq_true.mp ((Array.all_eq_true_iff_forall_mem.mp hF) _ (Array.getElem_mem ha)) i (List.mem_range.mpr hi)
    simpa [Array.getElem?_eq_getElem hi] using q
  obtain ⟨hsets, hown0⟩ := atoms_of _ (rest_1_c_eq ▸ (show rest_1_c.before _ s = true from hrest))
  have hr0 := Cond.before_iff.mp hown0
  obtain ⟨i0, ei0⟩ := is_v ga1l
  obtain rfl : w0 = (.int i0) := Option.some.inj ei0
  obtain ⟨i1, ei1⟩ := is_v ga2l
  obtain rfl : w1 = (.int i1) := Option.some.inj ei1
  obtain ⟨i2, ei2⟩ := is_v ga3l
  obtain rfl : w2 = (.int i2) := Option.some.inj ei2
  obtain ⟨i3, ei3⟩ := is_v ga3r
  obtain rfl : w3 = (.int i3) := Option.some.inj ei3
  obtain ⟨z, ez⟩ := is_v (Cond.before_iff.mp (hsets _ (List.mem_of_getElem? (i := 1) rfl)))
  have SC := Sta.start ez (Or.inl (hsets _ (List.mem_of_getElem? (i := 0) rfl)))
  have hz : ¬ z = (0 : Int32) := gotF (Cond.eq_ints ez (Term.int_eval (0))) (not_v (Cond.before_iff.mp (hsets _ (List.mem_of_getElem? (i := 2) rfl))))
  have hcw : Jvm.Lit.compactW.before #[.int i0, .int i1, .int i2, .int i3] s = true := (hsets _ (List.mem_of_getElem? (i := 2) rfl))
  obtain ⟨fm, ef, hfm⟩ := isR_v (Cond.before_iff.mp (hsets _ (List.mem_of_getElem? (i := 8) rfl)))
  have SF := Sta.start ef (Or.inl (hsets _ (List.mem_of_getElem? (i := 7) rfl)))
  obtain ⟨n, o, h1, h2, h3, _, L, rfl, ⟨rfl, N⟩, hq⟩ := rm0 l s _ hw tables_1 i0 i1 i2 i3 z fm s.heap s.heap.size (Nat.le_refl _) hz (Old.start s) SC SF hfm p e ha hc hk s m _ below hf ((Spec.applies_iff_loose hf).mp happ).1 ⟨rfl, State.Warmed39.refl s, rfl⟩ trivial
  refine ⟨n, _, h1, h2, h3, hpost _ _ _ _ _ _ ⟨Cond.after_iff.mpr rfl, Cond.after_iff.mpr (eq_i res_at (Term.int_eval (1)) rfl), trivial⟩ ⟨hq.1, hq.2.1, (hq.2.2.sift fun y hy => Or.inr (N y hy)).mono (by decide) (by decide)⟩⟩
theorem main_1_1 : Claimed_1_1 := comes_1 fun _ _ _ _ _ _ h hF => ⟨h.1, hF⟩
theorem main_1_2 : Claimed_1_2 := comes_1 fun _ _ _ _ _ _ h hF => ⟨h.2.1, hF⟩
end Jvm.Pilot.@@N@@
namespace Jvm.Pilot.@@N@@
open Jvm Jvm.ClassFile Sem Op Lib Jvm.Free Jvm.Stand Jvm.Pilot.@@N@@.Jvm.D
/-! MADE BY PROGRAM (witnessworld.py) out of the Statement's table words and the real class files: 26 classes; the members and pool entries that the words name. The judged class is class 1, her method 3. -/
namespace start1
open Jvm.ClassFile
def u (s : String) : CpInfo := .utf8 (stringToUtf16 s)
/-- a pool by its gaps: so many unusable entries, then the entry; so many at the end -/
def gap : Nat → List CpInfo → List CpInfo
  | 0, r => r
  | n + 1, r => .unusable :: gap n r
def poolList (es : List (Nat × CpInfo)) (last : Nat) : List CpInfo := es.foldr (fun e r => gap e.1 (e.2 :: r)) (gap last [])
def pool (es : List (Nat × CpInfo)) (last : Nat) : Array CpInfo := ⟨poolList es last⟩
def fileOf (pool : Array CpInfo) (this : Nat) (attrs : Array Attribute := #[]) (ms : Array MethodInfo := #[]) (fl : Nat := 33) (sup : Nat := 0) (ifs : Array Nat := #[]) (fds : Array FieldInfo := #[]) : ClassFile where
  minorVersion := 0
  majorVersion := 65
  constantPool := pool
  accessFlags := fl
  thisClass := this
  superClass := sup
  interfaces := ifs
  fields := fds
  methods := ms
  attributes := attrs
def plain (name : String) (sup : Option ClassId) : Class where
  name := name
  kind := .ordinary
  loader := none
  accessFlags := 33
  super := sup
  interfaces := #[]
  cf := none
  fields := #[]
  methods := #[]
  instanceTypes := #[]
  staticTypes := #[]
  resolved := #[]
  callSites := []
  init := .initialized
  statics := none
  mirror := none

def pool0 : Array CpInfo := pool [(5, u "<init>"), (0, u "()V"), (1, .class_ 10), (1, u "java/lang/Object")] 113

def k0c0 : Code := { maxStack := 0, maxLocals := 1, code := object_method_1_code, exceptionTable := #[], attributes := #[] }
def k0m0 : Method := { name := "<init>", desc := "()V", sig := { parameters := [], returnType := none }, accessFlags := 1, code := some k0c0 }
/-- java/lang/Object -/
def k0 : Class := { plain "java/lang/Object" none with
  accessFlags := 33
  interfaces := #[]
  cf := some (fileOf pool0 8 #[] #[{ accessFlags := 1, nameIndex := 5, descriptorIndex := 6, attributes := #[] }] 33 0 #[] #[])
  fields := #[]
  methods := #[k0m0]
  instanceTypes := #[]
  staticTypes := #[]
  resolved := Array.replicate 124 none
  statics := none }

def pool1 : Array CpInfo := pool [(2, .class_ 4), (1, u "java/lang/Object"), (0, u "<init>"), (0, u "()V"), (0, .methodref 8 9), (0, .class_ 10), (0, .nameAndType 11 12), (0, u "com/example/tidelock/tidelock/server/StructuredFieldsStringPinLaw"), (0, u "unitChar"), (0, u "(I)C"), (0, .methodref 8 14), (0, .nameAndType 15 16), (0, u "put"), (0, u "([CIC)I"), (0, .class_ 18), (0, u "java/lang/String"), (0, .methodref 17 20), (0, .nameAndType 5 21), (0, u "([C)V"), (0, .methodref 23 24), (0, .class_ 25), (0, .nameAndType 26 27), (0, u "com/example/tidelock/tidelock/server/StructuredFields"), (0, u "string"), (0, u "(Ljava/lang/String;)Ljava/lang/String;"), (0, .methodref 17 29), (0, .nameAndType 30 31), (0, u "length"), (0, u "()I"), (0, .methodref 17 33), (0, .nameAndType 34 12), (0, u "charAt"), (3, u "law"), (0, u "(IIII)Z")] 4

def k1m0 : Method := { name := "<init>", desc := "()V", sig := { parameters := [], returnType := none }, accessFlags := 1, code := none }
def k1c1 : Code := { maxStack := 3, maxLocals := 2, code := method_2_code, exceptionTable := #[], attributes := #[] }
def k1m1 : Method := { name := "unitChar", desc := "(I)C", sig := { parameters := [.int], returnType := some .char }, accessFlags := 10, code := some k1c1 }
def k1c2 : Code := { maxStack := 3, maxLocals := 3, code := method_3_code, exceptionTable := #[], attributes := #[] }
def k1m2 : Method := { name := "put", desc := "([CIC)I", sig := { parameters := [(.array .char), .int, .char], returnType := some .int }, accessFlags := 10, code := some k1c2 }
def k1c3 : Code := { maxStack := 3, maxLocals := 12, code := code, exceptionTable := #[], attributes := #[] }
def k1m3 : Method := { name := "law", desc := "(IIII)Z", sig := { parameters := [.int, .int, .int, .int], returnType := some .boolean }, accessFlags := 9, code := some k1c3 }
/-- com/example/tidelock/tidelock/server/StructuredFieldsStringPinLaw -/
def k1 : Class := { plain "com/example/tidelock/tidelock/server/StructuredFieldsStringPinLaw" (some 0) with
  accessFlags := 49
  interfaces := #[]
  cf := some (fileOf pool1 8 #[] #[{ accessFlags := 1, nameIndex := 5, descriptorIndex := 6, attributes := #[] }, { accessFlags := 10, nameIndex := 11, descriptorIndex := 12, attributes := #[] }, { accessFlags := 10, nameIndex := 15, descriptorIndex := 16, attributes := #[] }, { accessFlags := 9, nameIndex := 38, descriptorIndex := 39, attributes := #[] }] 49 2 #[] #[])
  fields := #[]
  methods := #[k1m0, k1m1, k1m2, k1m3]
  instanceTypes := #[]
  staticTypes := #[]
  resolved := Array.replicate 44 none
  statics := none }

def pool2 : Array CpInfo := pool [(1, .class_ 2), (0, u "java/io/Serializable"), (0, .class_ 4), (0, u "java/lang/Object")] 2

/-- java/io/Serializable -/
def k2 : Class := { plain "java/io/Serializable" (some 0) with
  accessFlags := 1537
  interfaces := #[]
  cf := some (fileOf pool2 1 #[] #[] 1537 3 #[] #[])
  fields := #[]
  methods := #[]
  instanceTypes := #[]
  staticTypes := #[]
  resolved := Array.replicate 7 none
  statics := none }

def pool3 : Array CpInfo := pool [(1, .class_ 2), (0, u "java/lang/Comparable"), (0, .class_ 4), (0, u "java/lang/Object")] 7

/-- java/lang/Comparable -/
def k3 : Class := { plain "java/lang/Comparable" (some 0) with
  accessFlags := 1537
  interfaces := #[]
  cf := some (fileOf pool3 1 #[] #[] 1537 3 #[] #[])
  fields := #[]
  methods := #[]
  instanceTypes := #[]
  staticTypes := #[]
  resolved := Array.replicate 12 none
  statics := none }

def pool4 : Array CpInfo := pool [(2, .class_ 4), (1, u "java/lang/CharSequence"), (42, .class_ 48), (0, u "java/lang/CharSequence$1CodePointIterator"), (10, .class_ 60), (0, u "java/lang/CharSequence$1CharIterator"), (5, .class_ 67), (0, u "java/lang/Object")] 63

/-- java/lang/CharSequence -/
def k4 : Class := { plain "java/lang/CharSequence" (some 0) with
  accessFlags := 1537
  interfaces := #[]
  cf := some (fileOf pool4 2 #[.nestMembers #[47, 59]] #[] 1537 66 #[] #[])
  fields := #[]
  methods := #[]
  instanceTypes := #[]
  staticTypes := #[]
  resolved := Array.replicate 131 none
  statics := none }

def pool5 : Array CpInfo := pool [(1, .class_ 2), (0, u "java/lang/constant/Constable"), (0, .class_ 4), (0, u "java/lang/Object")] 6

/-- java/lang/constant/Constable -/
def k5 : Class := { plain "java/lang/constant/Constable" (some 0) with
  accessFlags := 1537
  interfaces := #[]
  cf := some (fileOf pool5 1 #[] #[] 1537 3 #[] #[])
  fields := #[]
  methods := #[]
  instanceTypes := #[]
  staticTypes := #[]
  resolved := Array.replicate 11 none
  statics := none }

def pool6 : Array CpInfo := pool [(1, .class_ 2), (0, u "java/lang/constant/ConstantDesc"), (0, .class_ 4), (0, u "java/lang/Object")] 32

/-- java/lang/constant/ConstantDesc -/
def k6 : Class := { plain "java/lang/constant/ConstantDesc" (some 0) with
  accessFlags := 1537
  interfaces := #[]
  cf := some (fileOf pool6 1 #[] #[] 1537 3 #[] #[])
  fields := #[]
  methods := #[]
  instanceTypes := #[]
  staticTypes := #[]
  resolved := Array.replicate 37 none
  statics := none }

def pool7 : Array CpInfo := pool [(1, .methodref 2 3), (0, .class_ 4), (0, .nameAndType 5 6), (0, u "java/lang/Object"), (0, u "<init>"), (0, u "()V"), (2, .fieldref 10 11), (0, .class_ 12), (0, .nameAndType 13 14), (0, u "java/lang/String"), (0, u "value"), (0, u "[B"), (0, .fieldref 10 16), (0, .nameAndType 17 18), (0, u "coder"), (0, u "B"), (2, u "hash"), (0, u "I"), (2, u "hashIsZero"), (0, u "Z"), (0, .methodref 10 28), (0, .nameAndType 5 29), (0, u "([CIILjava/lang/Void;)V"), (8, .fieldref 10 39), (0, .nameAndType 40 26), (0, u "COMPACT_STRINGS"), (1, .class_ 44), (1, u "java/lang/StringUTF16"), (0, u "compress"), (1, .methodref 42 48), (0, .nameAndType 49 50), (0, u "coderFromArrayLen"), (0, u "([BI)B"), (3, .methodref 55 56), (0, .class_ 57), (0, .nameAndType 58 59), (0, u "java/util/Arrays"), (0, u "copyOfRange"), (0, u "([BII)[B"), (47, .class_ 109), (1, u "java/lang/StringLatin1"), (32, u "()Z"), (34, .methodref 42 178), (0, .nameAndType 45 179), (0, u "([CII)[B"), (154, u "()I"), (0, .methodref 10 336), (0, .nameAndType 17 337), (0, u "()B"), (2, u "()[B"), (22, u "([BI)C"), (27, u "(II)V"), (35, u "(I)C"), (61, .methodref 10 490), (0, .nameAndType 5 491), (0, u "(Ljava/lang/AbstractStringBuilder;Ljava/lang/Void;)V"), (0, .methodref 10 493), (0, .nameAndType 494 142), (0, u "isLatin1"), (0, .methodref 107 496), (0, .nameAndType 497 363), (0, u "charAt"), (3, u "checkIndex"), (4, .nameAndType 507 334), (0, u "length"), (41, .methodref 550 506), (0, .class_ 551), (0, u "java/lang/AbstractStringBuilder"), (0, .methodref 550 553), (0, .nameAndType 554 340), (0, u "getValue"), (20, .class_ 576), (0, u "java/lang/CharSequence"), (22, u "CASE_INSENSITIVE_ORDER"), (0, u "Ljava/util/Comparator;"), (409, u "([C)V"), (36, .methodref 550 493), (5, .fieldref 1054 1055), (0, .class_ 1056), (0, .nameAndType 1057 1058), (0, u "jdk/internal/util/Preconditions"), (0, u "SIOOBE_FORMATTER"), (0, u "Ljava/util/function/BiFunction;"), (0, .methodref 1054 1060), (0, .nameAndType 501 1061), (0, u "(IILjava/util/function/BiFunction;)I"), (39, u "serialPersistentFields"), (0, u "[Ljava/io/ObjectStreamField;"), (0, .class_ 1104), (0, u "java/lang/String$CaseInsensitiveComparator"), (1, .class_ 1107), (0, u "java/io/Serializable"), (0, .class_ 1109), (0, u "java/lang/Comparable"), (0, .class_ 1111), (0, u "java/lang/constant/Constable"), (0, .class_ 1113), (0, u "java/lang/constant/ConstantDesc"), (2, u "serialVersionUID"), (0, u "J"), (3, u "REPL"), (0, u "C"), (2, u "LATIN1"), (1, u "UTF16"), (105, u "(Ljava/lang/StringBuilder;)V")] 217

def k7m0 : Method := { name := "<init>", desc := "()V", sig := { parameters := [], returnType := none }, accessFlags := 1, code := none }
def k7c1 : Code := { maxStack := 5, maxLocals := 2, code := jdk_42_method_3_code, exceptionTable := #[], attributes := #[] }
def k7m1 : Method := { name := "<init>", desc := "([C)V", sig := { parameters := [(.array .char)], returnType := none }, accessFlags := 1, code := some k7c1 }
def k7c2 : Code := { maxStack := 3, maxLocals := 2, code := jdk_42_method_53_code, exceptionTable := #[], attributes := #[] }
def k7m2 : Method := { name := "<init>", desc := "(Ljava/lang/StringBuilder;)V", sig := { parameters := [(.object "java/lang/StringBuilder")], returnType := none }, accessFlags := 1, code := some k7c2 }
def k7c3 : Code := { maxStack := 2, maxLocals := 1, code := jdk_42_method_54_code, exceptionTable := #[], attributes := #[] }
def k7m3 : Method := { name := "length", desc := "()I", sig := { parameters := [], returnType := some .int }, accessFlags := 1, code := some k7c3 }
def k7c4 : Code := { maxStack := 2, maxLocals := 2, code := jdk_42_method_56_code, exceptionTable := #[], attributes := #[] }
def k7m4 : Method := { name := "charAt", desc := "(I)C", sig := { parameters := [.int], returnType := some .char }, accessFlags := 1, code := some k7c4 }
def k7c5 : Code := { maxStack := 4, maxLocals := 6, code := jdk_42_method_149_code, exceptionTable := #[], attributes := #[] }
def k7m5 : Method := { name := "<init>", desc := "([CIILjava/lang/Void;)V", sig := { parameters := [(.array .char), .int, .int, (.object "java/lang/Void")], returnType := none }, accessFlags := 2, code := some k7c5 }
def k7c6 : Code := { maxStack := 5, maxLocals := 5, code := jdk_42_method_150_code, exceptionTable := #[], attributes := #[] }
def k7m6 : Method := { name := "<init>", desc := "(Ljava/lang/AbstractStringBuilder;Ljava/lang/Void;)V", sig := { parameters := [(.object "java/lang/AbstractStringBuilder"), (.object "java/lang/Void")], returnType := none }, accessFlags := 0, code := some k7c6 }
def k7c7 : Code := { maxStack := 1, maxLocals := 1, code := jdk_42_method_152_code, exceptionTable := #[], attributes := #[] }
def k7m7 : Method := { name := "coder", desc := "()B", sig := { parameters := [], returnType := some .byte }, accessFlags := 0, code := some k7c7 }
def k7c8 : Code := { maxStack := 1, maxLocals := 1, code := jdk_42_method_154_code, exceptionTable := #[], attributes := #[] }
def k7m8 : Method := { name := "isLatin1", desc := "()Z", sig := { parameters := [], returnType := some .boolean }, accessFlags := 0, code := some k7c8 }
def k7c9 : Code := { maxStack := 3, maxLocals := 2, code := jdk_42_method_155_code, exceptionTable := #[], attributes := #[] }
def k7m9 : Method := { name := "checkIndex", desc := "(II)V", sig := { parameters := [.int, .int], returnType := none }, accessFlags := 8, code := some k7c9 }
/-- java/lang/String -/
def k7 : Class := { plain "java/lang/String" (some 0) with
  accessFlags := 49
  interfaces := #[2, 3, 4, 5, 6]
  cf := some (fileOf pool7 10 #[.nestMembers #[1103]] #[{ accessFlags := 1, nameIndex := 5, descriptorIndex := 6, attributes := #[] }, { accessFlags := 1, nameIndex := 5, descriptorIndex := 1010, attributes := #[] }, { accessFlags := 1, nameIndex := 5, descriptorIndex := 1233, attributes := #[] }, { accessFlags := 1, nameIndex := 507, descriptorIndex := 334, attributes := #[] }, { accessFlags := 1, nameIndex := 497, descriptorIndex := 427, attributes := #[] }, { accessFlags := 2, nameIndex := 5, descriptorIndex := 29, attributes := #[] }, { accessFlags := 0, nameIndex := 5, descriptorIndex := 491, attributes := #[] }, { accessFlags := 0, nameIndex := 17, descriptorIndex := 337, attributes := #[] }, { accessFlags := 0, nameIndex := 494, descriptorIndex := 142, attributes := #[] }, { accessFlags := 8, nameIndex := 501, descriptorIndex := 391, attributes := #[] }] 49 2 #[1106, 1108, 575, 1110, 1112] #[{ accessFlags := 18, nameIndex := 13, descriptorIndex := 14, attributes := #[] }, { accessFlags := 18, nameIndex := 17, descriptorIndex := 18, attributes := #[] }, { accessFlags := 2, nameIndex := 21, descriptorIndex := 22, attributes := #[] }, { accessFlags := 2, nameIndex := 25, descriptorIndex := 26, attributes := #[] }, { accessFlags := 26, nameIndex := 1116, descriptorIndex := 1117, attributes := #[] }, { accessFlags := 24, nameIndex := 40, descriptorIndex := 26, attributes := #[] }, { accessFlags := 26, nameIndex := 1101, descriptorIndex := 1102, attributes := #[] }, { accessFlags := 26, nameIndex := 1121, descriptorIndex := 1122, attributes := #[] }, { accessFlags := 25, nameIndex := 599, descriptorIndex := 600, attributes := #[] }, { accessFlags := 24, nameIndex := 1125, descriptorIndex := 18, attributes := #[] }, { accessFlags := 24, nameIndex := 1127, descriptorIndex := 18, attributes := #[] }])
  fields := #[{ name := "value", type := (.array .byte), accessFlags := 18, slot := 0, constantValue := 0 }, { name := "coder", type := .byte, accessFlags := 18, slot := 1, constantValue := 0 }, { name := "hash", type := .int, accessFlags := 2, slot := 2, constantValue := 0 }, { name := "hashIsZero", type := .boolean, accessFlags := 2, slot := 3, constantValue := 0 }, { name := "serialVersionUID", type := .long, accessFlags := 26, slot := 0, constantValue := 0 }, { name := "COMPACT_STRINGS", type := .boolean, accessFlags := 24, slot := 1, constantValue := 0 }, { name := "serialPersistentFields", type := (.array (.object "java/io/ObjectStreamField")), accessFlags := 26, slot := 2, constantValue := 0 }, { name := "REPL", type := .char, accessFlags := 26, slot := 3, constantValue := 0 }, { name := "CASE_INSENSITIVE_ORDER", type := (.object "java/util/Comparator"), accessFlags := 25, slot := 4, constantValue := 0 }, { name := "LATIN1", type := .byte, accessFlags := 24, slot := 5, constantValue := 0 }, { name := "UTF16", type := .byte, accessFlags := 24, slot := 6, constantValue := 0 }]
  methods := #[k7m0, k7m1, k7m2, k7m3, k7m4, k7m5, k7m6, k7m7, k7m8, k7m9]
  instanceTypes := #[(.array .byte), .byte, .int, .boolean]
  staticTypes := #[.long, .boolean, (.array (.object "java/io/ObjectStreamField")), .char, (.object "java/util/Comparator"), .byte, .byte]
  resolved := Array.replicate 1451 none
  statics := some 0 }

def pool8 : Array CpInfo := pool [(6, .class_ 8), (1, u "java/lang/Object"), (0, u "<init>"), (0, u "()V"), (1, .class_ 14), (1, u "java/lang/StringUTF16"), (31, u "$assertionsDisabled"), (0, u "Z"), (13, u "HI_BYTE_SHIFT"), (0, u "I"), (2, u "LO_BYTE_SHIFT"), (49, .methodref 12 116), (0, .nameAndType 117 118), (0, u "compress"), (0, u "([CI[BII)I"), (3, u "([CII)[B"), (138, u "coderFromArrayLen"), (0, u "([BI)B"), (106, .class_ 371), (1, u "java/lang/StringUTF16$LinesSpliterator"), (58, u "MAX_LENGTH"), (196, .class_ 628), (0, u "java/lang/StringUTF16$CodePointsSpliterator"), (0, .class_ 630), (0, u "java/lang/StringUTF16$CharsSpliterator")] 4

def k8m0 : Method := { name := "<init>", desc := "()V", sig := { parameters := [], returnType := none }, accessFlags := 0, code := none }
def k8c1 : Code := { maxStack := 2, maxLocals := 2, code := jdk_52_method_15_code, exceptionTable := #[], attributes := #[] }
def k8m1 : Method := { name := "coderFromArrayLen", desc := "([BI)B", sig := { parameters := [(.array .byte), .int], returnType := some .byte }, accessFlags := 8, code := some k8c1 }
def k8c2 : Code := { maxStack := 5, maxLocals := 6, code := jdk_52_method_16_code, exceptionTable := #[], attributes := #[] }
def k8m2 : Method := { name := "compress", desc := "([CII)[B", sig := { parameters := [(.array .char), .int, .int], returnType := some (.array .byte) }, accessFlags := 9, code := some k8c2 }
def k8c3 : Code := { maxStack := 3, maxLocals := 7, code := jdk_52_method_21_code, exceptionTable := #[], attributes := #[] }
def k8m3 : Method := { name := "compress", desc := "([CI[BII)I", sig := { parameters := [(.array .char), .int, (.array .byte), .int, .int], returnType := some .int }, accessFlags := 9, code := some k8c3 }
/-- java/lang/StringUTF16 -/
def k8 : Class := { plain "java/lang/StringUTF16" (some 0) with
  accessFlags := 48
  interfaces := #[]
  cf := some (fileOf pool8 12 #[.nestMembers #[627, 629, 369]] #[{ accessFlags := 0, nameIndex := 9, descriptorIndex := 10, attributes := #[] }, { accessFlags := 8, nameIndex := 261, descriptorIndex := 262, attributes := #[] }, { accessFlags := 9, nameIndex := 117, descriptorIndex := 122, attributes := #[] }, { accessFlags := 9, nameIndex := 117, descriptorIndex := 118, attributes := #[] }] 48 6 #[] #[{ accessFlags := 26, nameIndex := 61, descriptorIndex := 62, attributes := #[] }, { accessFlags := 26, nameIndex := 65, descriptorIndex := 62, attributes := #[] }, { accessFlags := 24, nameIndex := 430, descriptorIndex := 62, attributes := #[] }, { accessFlags := 4120, nameIndex := 46, descriptorIndex := 47, attributes := #[] }])
  fields := #[{ name := "HI_BYTE_SHIFT", type := .int, accessFlags := 26, slot := 0, constantValue := 0 }, { name := "LO_BYTE_SHIFT", type := .int, accessFlags := 26, slot := 1, constantValue := 0 }, { name := "MAX_LENGTH", type := .int, accessFlags := 24, slot := 2, constantValue := 0 }, { name := "$assertionsDisabled", type := .boolean, accessFlags := 4120, slot := 3, constantValue := 0 }]
  methods := #[k8m0, k8m1, k8m2, k8m3]
  instanceTypes := #[]
  staticTypes := #[.int, .int, .int, .boolean]
  resolved := Array.replicate 635 none
  statics := none }

def pool9 : Array CpInfo := pool [(2, .class_ 4), (0, .nameAndType 5 6), (0, u "java/lang/Object"), (0, u "<init>"), (0, u "()V"), (0, .methodref 8 9), (0, .class_ 10), (0, .nameAndType 11 12), (0, u "java/lang/String"), (0, u "length"), (0, u "()I"), (0, .methodref 8 14), (0, .nameAndType 15 16), (0, u "charAt"), (0, u "(I)C"), (2, .class_ 20), (0, u "com/example/tidelock/tidelock/server/StructuredFields"), (5, .class_ 27), (0, u "java/lang/StringBuilder"), (0, .methodref 26 3), (6, .methodref 26 36), (0, .nameAndType 37 38), (0, u "append"), (0, u "(C)Ljava/lang/StringBuilder;"), (2, .methodref 26 42), (0, .nameAndType 43 44), (0, u "toString"), (0, u "()Ljava/lang/String;"), (0, u "STRING_RULE"), (0, u "Ljava/lang/String;"), (5, u "string"), (0, u "(Ljava/lang/String;)Ljava/lang/String;")] 18

def k9m0 : Method := { name := "<init>", desc := "()V", sig := { parameters := [], returnType := none }, accessFlags := 2, code := none }
def k9c1 : Code := { maxStack := 4, maxLocals := 5, code := prog_20_method_2_code, exceptionTable := #[], attributes := #[] }
def k9m1 : Method := { name := "string", desc := "(Ljava/lang/String;)Ljava/lang/String;", sig := { parameters := [(.object "java/lang/String")], returnType := some (.object "java/lang/String") }, accessFlags := 8, code := some k9c1 }
/-- com/example/tidelock/tidelock/server/StructuredFields -/
def k9 : Class := { plain "com/example/tidelock/tidelock/server/StructuredFields" (some 0) with
  accessFlags := 48
  interfaces := #[]
  cf := some (fileOf pool9 19 #[] #[{ accessFlags := 2, nameIndex := 5, descriptorIndex := 6, attributes := #[] }, { accessFlags := 8, nameIndex := 52, descriptorIndex := 53, attributes := #[] }] 48 2 #[] #[{ accessFlags := 26, nameIndex := 45, descriptorIndex := 46, attributes := #[] }])
  fields := #[{ name := "STRING_RULE", type := (.object "java/lang/String"), accessFlags := 26, slot := 0, constantValue := 0 }]
  methods := #[k9m0, k9m1]
  instanceTypes := #[]
  staticTypes := #[(.object "java/lang/String")]
  resolved := Array.replicate 72 none
  statics := none }

def pool10 : Array CpInfo := pool [(1, .class_ 2), (0, u "java/lang/String"), (1, .class_ 6), (1, u "java/lang/Object"), (0, u "<init>"), (0, u "()V"), (0, .methodref 1 10), (0, .nameAndType 11 12), (0, u "checkIndex"), (0, u "(II)V"), (1, .class_ 16), (1, u "java/lang/StringLatin1"), (36, u "([BI)C"), (36, u "canEncode"), (14, u "(C)Z"), (15, u "$assertionsDisabled"), (0, u "Z"), (98, .class_ 223), (1, u "java/lang/StringLatin1$LinesSpliterator"), (28, u "charAt"), (137, .class_ 391), (0, u "java/lang/StringLatin1$CharsSpliterator")] 3

def k10m0 : Method := { name := "<init>", desc := "()V", sig := { parameters := [], returnType := none }, accessFlags := 0, code := none }
def k10c1 : Code := { maxStack := 2, maxLocals := 2, code := jdk_43_method_2_code, exceptionTable := #[], attributes := #[] }
def k10m1 : Method := { name := "charAt", desc := "([BI)C", sig := { parameters := [(.array .byte), .int], returnType := some .char }, accessFlags := 9, code := some k10c1 }
def k10c2 : Code := { maxStack := 2, maxLocals := 1, code := jdk_43_method_3_code, exceptionTable := #[], attributes := #[] }
def k10m2 : Method := { name := "canEncode", desc := "(C)Z", sig := { parameters := [.char], returnType := some .boolean }, accessFlags := 9, code := some k10c2 }
/-- java/lang/StringLatin1 -/
def k10 : Class := { plain "java/lang/StringLatin1" (some 0) with
  accessFlags := 48
  interfaces := #[]
  cf := some (fileOf pool10 14 #[.nestMembers #[390, 221]] #[{ accessFlags := 0, nameIndex := 7, descriptorIndex := 8, attributes := #[] }, { accessFlags := 9, nameIndex := 252, descriptorIndex := 53, attributes := #[] }, { accessFlags := 9, nameIndex := 90, descriptorIndex := 105, attributes := #[] }] 48 4 #[] #[{ accessFlags := 4120, nameIndex := 121, descriptorIndex := 122, attributes := #[] }])
  fields := #[{ name := "$assertionsDisabled", type := .boolean, accessFlags := 4120, slot := 0, constantValue := 0 }]
  methods := #[k10m0, k10m1, k10m2]
  instanceTypes := #[]
  staticTypes := #[.boolean]
  resolved := Array.replicate 395 none
  statics := none }

def pool11 : Array CpInfo := pool [(2, .class_ 4), (1, u "java/lang/Object"), (0, u "<init>"), (0, u "()V"), (17, .class_ 26), (1, u "jdk/internal/util/Preconditions"), (6, u "checkIndex"), (21, .class_ 56), (0, u "jdk/internal/util/Preconditions$4"), (57, .class_ 115), (0, u "jdk/internal/util/Preconditions$1"), (7, u "SIOOBE_FORMATTER"), (0, u "Ljava/util/function/BiFunction;"), (0, .class_ 126), (0, u "jdk/internal/util/Preconditions$2"), (3, u "AIOOBE_FORMATTER"), (0, .class_ 132), (0, u "jdk/internal/util/Preconditions$3"), (3, u "IOOBE_FORMATTER"), (41, u "(IILjava/util/function/BiFunction;)I")] 15

def k11m0 : Method := { name := "<init>", desc := "()V", sig := { parameters := [], returnType := none }, accessFlags := 1, code := none }
def k11c1 : Code := { maxStack := 3, maxLocals := 3, code := jdk_41_method_11_code, exceptionTable := #[], attributes := #[] }
def k11m1 : Method := { name := "checkIndex", desc := "(IILjava/util/function/BiFunction;)I", sig := { parameters := [.int, .int, (.object "java/util/function/BiFunction")], returnType := some .int }, accessFlags := 9, code := some k11c1 }
/-- jdk/internal/util/Preconditions -/
def k11 : Class := { plain "jdk/internal/util/Preconditions" (some 0) with
  accessFlags := 33
  interfaces := #[]
  cf := some (fileOf pool11 24 #[.nestMembers #[55, 131, 125, 114]] #[{ accessFlags := 1, nameIndex := 5, descriptorIndex := 6, attributes := #[] }, { accessFlags := 9, nameIndex := 33, descriptorIndex := 178, attributes := #[] }] 33 2 #[] #[{ accessFlags := 25, nameIndex := 123, descriptorIndex := 124, attributes := #[] }, { accessFlags := 25, nameIndex := 130, descriptorIndex := 124, attributes := #[] }, { accessFlags := 25, nameIndex := 136, descriptorIndex := 124, attributes := #[] }])
  fields := #[{ name := "SIOOBE_FORMATTER", type := (.object "java/util/function/BiFunction"), accessFlags := 25, slot := 0, constantValue := 0 }, { name := "AIOOBE_FORMATTER", type := (.object "java/util/function/BiFunction"), accessFlags := 25, slot := 1, constantValue := 0 }, { name := "IOOBE_FORMATTER", type := (.object "java/util/function/BiFunction"), accessFlags := 25, slot := 2, constantValue := 0 }]
  methods := #[k11m0, k11m1]
  instanceTypes := #[]
  staticTypes := #[(.object "java/util/function/BiFunction"), (.object "java/util/function/BiFunction"), (.object "java/util/function/BiFunction")]
  resolved := Array.replicate 194 none
  statics := some 1 }

def pool12 : Array CpInfo := pool [(1, .class_ 2), (0, u "java/lang/Appendable"), (0, .class_ 4), (0, u "java/lang/Object")] 9

/-- java/lang/Appendable -/
def k12 : Class := { plain "java/lang/Appendable" (some 0) with
  accessFlags := 1537
  interfaces := #[]
  cf := some (fileOf pool12 1 #[] #[] 1537 3 #[] #[])
  fields := #[]
  methods := #[]
  instanceTypes := #[]
  staticTypes := #[]
  resolved := Array.replicate 14 none
  statics := none }

def pool13 : Array CpInfo := pool [(1, .class_ 2), (0, u "java/lang/String"), (0, .methodref 4 5), (0, .class_ 6), (0, .nameAndType 7 8), (0, u "java/lang/Object"), (0, u "<init>"), (0, u "()V"), (1, .class_ 12), (1, u "java/lang/AbstractStringBuilder"), (0, u "EMPTYVALUE"), (0, u "[B"), (0, .fieldref 10 16), (0, .nameAndType 17 14), (0, u "value"), (0, .fieldref 1 19), (0, .nameAndType 20 21), (0, u "COMPACT_STRINGS"), (0, u "Z"), (0, .fieldref 10 23), (0, .nameAndType 24 25), (0, u "coder"), (0, u "B"), (8, u "length"), (0, u "()I"), (9, u "append"), (2, .class_ 49), (0, u "java/lang/CharSequence"), (25, u "maybeLatin1"), (3, .fieldref 10 80), (0, .nameAndType 81 82), (0, u "count"), (0, u "I"), (0, .methodref 10 84), (0, .nameAndType 85 86), (0, u "isLatin1"), (0, u "()Z"), (1, .class_ 90), (1, u "java/lang/StringLatin1"), (9, .methodref 10 101), (0, .nameAndType 102 103), (0, u "ensureCapacityInternal"), (0, u "(I)V"), (87, .methodref 88 192), (0, .nameAndType 193 194), (0, u "canEncode"), (0, u "(C)Z"), (97, u "(C)Ljava/lang/AbstractStringBuilder;"), (110, u "()[B"), (40, .class_ 445), (0, u "java/lang/Appendable"), (106, u "getValue")] 56

def k13m0 : Method := { name := "<init>", desc := "()V", sig := { parameters := [], returnType := none }, accessFlags := 0, code := none }
def k13c1 : Code := { maxStack := 2, maxLocals := 2, code := jdk_68_method_2_code, exceptionTable := #[], attributes := #[] }
def k13m1 : Method := { name := "<init>", desc := "(I)V", sig := { parameters := [.int], returnType := none }, accessFlags := 0, code := some k13c1 }
def k13c2 : Code := { maxStack := 1, maxLocals := 1, code := jdk_68_method_6_code, exceptionTable := #[], attributes := #[] }
def k13m2 : Method := { name := "length", desc := "()I", sig := { parameters := [], returnType := some .int }, accessFlags := 1, code := some k13c2 }
def k13c3 : Code := { maxStack := 4, maxLocals := 3, code := jdk_68_method_9_code, exceptionTable := #[], attributes := #[] }
def k13m3 : Method := { name := "ensureCapacityInternal", desc := "(I)V", sig := { parameters := [.int], returnType := none }, accessFlags := 2, code := some k13c3 }
def k13c4 : Code := { maxStack := 5, maxLocals := 2, code := jdk_68_method_31_code, exceptionTable := #[], attributes := #[] }
def k13m4 : Method := { name := "append", desc := "(C)Ljava/lang/AbstractStringBuilder;", sig := { parameters := [.char], returnType := some (.object "java/lang/AbstractStringBuilder") }, accessFlags := 1, code := some k13c4 }
def k13c5 : Code := { maxStack := 1, maxLocals := 1, code := jdk_68_method_64_code, exceptionTable := #[], attributes := #[] }
def k13m5 : Method := { name := "getValue", desc := "()[B", sig := { parameters := [], returnType := some (.array .byte) }, accessFlags := 16, code := some k13c5 }
def k13c6 : Code := { maxStack := 1, maxLocals := 1, code := jdk_68_method_68_code, exceptionTable := #[], attributes := #[] }
def k13m6 : Method := { name := "isLatin1", desc := "()Z", sig := { parameters := [], returnType := some .boolean }, accessFlags := 16, code := some k13c6 }
/-- java/lang/AbstractStringBuilder -/
def k13 : Class := { plain "java/lang/AbstractStringBuilder" (some 0) with
  accessFlags := 1056
  interfaces := #[12, 4]
  cf := some (fileOf pool13 10 #[] #[{ accessFlags := 0, nameIndex := 7, descriptorIndex := 8, attributes := #[] }, { accessFlags := 0, nameIndex := 7, descriptorIndex := 103, attributes := #[] }, { accessFlags := 1, nameIndex := 34, descriptorIndex := 35, attributes := #[] }, { accessFlags := 2, nameIndex := 102, descriptorIndex := 103, attributes := #[] }, { accessFlags := 1, nameIndex := 45, descriptorIndex := 292, attributes := #[] }, { accessFlags := 16, nameIndex := 552, descriptorIndex := 403, attributes := #[] }, { accessFlags := 16, nameIndex := 85, descriptorIndex := 86, attributes := #[] }] 1056 4 #[444, 48] #[{ accessFlags := 0, nameIndex := 17, descriptorIndex := 14, attributes := #[] }, { accessFlags := 0, nameIndex := 24, descriptorIndex := 25, attributes := #[] }, { accessFlags := 0, nameIndex := 75, descriptorIndex := 21, attributes := #[] }, { accessFlags := 0, nameIndex := 81, descriptorIndex := 82, attributes := #[] }, { accessFlags := 26, nameIndex := 13, descriptorIndex := 14, attributes := #[] }])
  fields := #[{ name := "value", type := (.array .byte), accessFlags := 0, slot := 0, constantValue := 0 }, { name := "coder", type := .byte, accessFlags := 0, slot := 1, constantValue := 0 }, { name := "maybeLatin1", type := .boolean, accessFlags := 0, slot := 2, constantValue := 0 }, { name := "count", type := .int, accessFlags := 0, slot := 3, constantValue := 0 }, { name := "EMPTYVALUE", type := (.array .byte), accessFlags := 26, slot := 0, constantValue := 0 }]
  methods := #[k13m0, k13m1, k13m2, k13m3, k13m4, k13m5, k13m6]
  instanceTypes := #[(.array .byte), .byte, .boolean, .int]
  staticTypes := #[(.array .byte)]
  resolved := Array.replicate 609 none
  statics := none }

def pool14 : Array CpInfo := pool [(1, .methodref 2 3), (0, .class_ 4), (0, .nameAndType 5 6), (0, u "java/lang/AbstractStringBuilder"), (0, u "<init>"), (0, u "(I)V"), (11, .class_ 20), (1, u "java/lang/String"), (3, .class_ 26), (1, u "java/lang/StringBuilder"), (0, u "append"), (22, .methodref 2 51), (0, .nameAndType 27 52), (0, u "(C)Ljava/lang/AbstractStringBuilder;"), (84, .methodref 18 138), (0, .nameAndType 5 139), (0, u "(Ljava/lang/StringBuilder;)V"), (5, u "()V"), (10, u "()I"), (129, u "(C)Ljava/lang/StringBuilder;"), (56, .methodref 2 344), (0, .nameAndType 345 156), (0, u "length"), (3, .class_ 350), (0, u "java/lang/Appendable"), (0, .class_ 352), (0, u "java/io/Serializable"), (0, .class_ 354), (0, u "java/lang/Comparable"), (0, .class_ 356), (0, u "java/lang/CharSequence"), (0, u "serialVersionUID"), (0, u "J"), (40, u "toString"), (0, u "()Ljava/lang/String;")] 21

def k14c0 : Code := { maxStack := 2, maxLocals := 1, code := jdk_67_method_1_code, exceptionTable := #[], attributes := #[] }
def k14m0 : Method := { name := "<init>", desc := "()V", sig := { parameters := [], returnType := none }, accessFlags := 1, code := some k14c0 }
def k14c1 : Code := { maxStack := 2, maxLocals := 2, code := jdk_67_method_14_code, exceptionTable := #[], attributes := #[] }
def k14m1 : Method := { name := "append", desc := "(C)Ljava/lang/StringBuilder;", sig := { parameters := [.char], returnType := some (.object "java/lang/StringBuilder") }, accessFlags := 1, code := some k14c1 }
def k14c2 : Code := { maxStack := 3, maxLocals := 1, code := jdk_67_method_42_code, exceptionTable := #[], attributes := #[] }
def k14m2 : Method := { name := "toString", desc := "()Ljava/lang/String;", sig := { parameters := [], returnType := some (.object "java/lang/String") }, accessFlags := 1, code := some k14c2 }
def k14c3 : Code := { maxStack := 1, maxLocals := 1, code := jdk_67_method_93_code, exceptionTable := #[], attributes := #[] }
def k14m3 : Method := { name := "length", desc := "()I", sig := { parameters := [], returnType := some .int }, accessFlags := 4161, code := some k14c3 }
/-- java/lang/StringBuilder -/
def k14 : Class := { plain "java/lang/StringBuilder" (some 13) with
  accessFlags := 49
  interfaces := #[12, 2, 3, 4]
  cf := some (fileOf pool14 24 #[] #[{ accessFlags := 1, nameIndex := 5, descriptorIndex := 145, attributes := #[] }, { accessFlags := 1, nameIndex := 27, descriptorIndex := 286, attributes := #[] }, { accessFlags := 1, nameIndex := 399, descriptorIndex := 400, attributes := #[] }, { accessFlags := 4161, nameIndex := 345, descriptorIndex := 156, attributes := #[] }] 49 2 #[349, 351, 353, 355] #[{ accessFlags := 24, nameIndex := 357, descriptorIndex := 358, attributes := #[] }])
  fields := #[{ name := "serialVersionUID", type := .long, accessFlags := 24, slot := 0, constantValue := 0 }]
  methods := #[k14m0, k14m1, k14m2, k14m3]
  instanceTypes := #[(.array .byte), .byte, .boolean, .int]
  staticTypes := #[.long]
  resolved := Array.replicate 422 none
  statics := none }

def pool15 : Array CpInfo := pool [(2, .class_ 4), (1, u "java/lang/Object"), (0, u "<init>"), (0, u "()V"), (7, .class_ 16), (1, u "java/util/Arrays"), (57, .class_ 76), (1, u "java/util/Arrays$NaturalOrder"), (36, .class_ 115), (1, u "java/util/Arrays$LegacyMergeSort"), (1, u "Z"), (21, u "copyOfRange"), (10, .methodref 151 152), (0, .class_ 153), (0, .nameAndType 154 155), (0, u "java/lang/System"), (0, u "arraycopy"), (0, u "(Ljava/lang/Object;ILjava/lang/Object;II)V"), (148, .methodref 305 306), (0, .class_ 307), (0, .nameAndType 308 309), (0, u "java/lang/Math"), (0, u "min"), (0, u "(II)I"), (29, .methodref 14 340), (0, .nameAndType 341 342), (0, u "copyOfRangeByte"), (0, u "([BII)[B"), (0, .methodref 14 344), (0, .nameAndType 345 346), (0, u "checkLength"), (0, u "(II)V"), (28, .class_ 376), (0, u "java/util/Arrays$ArrayList"), (68, u "$assertionsDisabled"), (269, u "MIN_ARRAY_SORT_GRAN"), (0, u "I"), (2, u "INSERTIONSORT_THRESHOLD"), (255, .class_ 976), (0, u "java/util/Arrays$ArrayItr")] 52

def k15m0 : Method := { name := "<init>", desc := "()V", sig := { parameters := [], returnType := none }, accessFlags := 2, code := none }
def k15c1 : Code := { maxStack := 4, maxLocals := 2, code := jdk_65_method_131_code, exceptionTable := #[], attributes := #[] }
def k15m1 : Method := { name := "checkLength", desc := "(II)V", sig := { parameters := [.int, .int], returnType := none }, accessFlags := 10, code := some k15c1 }
def k15c2 : Code := { maxStack := 3, maxLocals := 3, code := jdk_65_method_132_code, exceptionTable := #[], attributes := #[] }
def k15m2 : Method := { name := "copyOfRange", desc := "([BII)[B", sig := { parameters := [(.array .byte), .int, .int], returnType := some (.array .byte) }, accessFlags := 9, code := some k15c2 }
def k15c3 : Code := { maxStack := 6, maxLocals := 5, code := jdk_65_method_133_code, exceptionTable := #[], attributes := #[] }
def k15m3 : Method := { name := "copyOfRangeByte", desc := "([BII)[B", sig := { parameters := [(.array .byte), .int, .int], returnType := some (.array .byte) }, accessFlags := 10, code := some k15c3 }
/-- java/util/Arrays -/
def k15 : Class := { plain "java/util/Arrays" (some 0) with
  accessFlags := 49
  interfaces := #[]
  cf := some (fileOf pool15 14 #[.nestMembers #[975, 375, 113, 74]] #[{ accessFlags := 2, nameIndex := 5, descriptorIndex := 6, attributes := #[] }, { accessFlags := 10, nameIndex := 345, descriptorIndex := 346, attributes := #[] }, { accessFlags := 9, nameIndex := 139, descriptorIndex := 342, attributes := #[] }, { accessFlags := 10, nameIndex := 341, descriptorIndex := 342, attributes := #[] }] 49 2 #[] #[{ accessFlags := 26, nameIndex := 715, descriptorIndex := 716, attributes := #[] }, { accessFlags := 26, nameIndex := 719, descriptorIndex := 716, attributes := #[] }, { accessFlags := 4120, nameIndex := 445, descriptorIndex := 117, attributes := #[] }])
  fields := #[{ name := "MIN_ARRAY_SORT_GRAN", type := .int, accessFlags := 26, slot := 0, constantValue := 0 }, { name := "INSERTIONSORT_THRESHOLD", type := .int, accessFlags := 26, slot := 1, constantValue := 0 }, { name := "$assertionsDisabled", type := .boolean, accessFlags := 4120, slot := 2, constantValue := 0 }]
  methods := #[k15m0, k15m1, k15m2, k15m3]
  instanceTypes := #[]
  staticTypes := #[.int, .int, .boolean]
  resolved := Array.replicate 1029 none
  statics := none }

def pool16 : Array CpInfo := pool [(1, .class_ 2), (0, u "java/lang/Math"), (1, .class_ 6), (1, u "java/lang/Object"), (0, u "<init>"), (0, u "()V"), (89, .class_ 100), (1, u "java/lang/Math$RandomNumberGeneratorHolder"), (71, u "negativeZeroFloatBits"), (0, u "J"), (2, u "negativeZeroDoubleBits"), (24, u "min"), (43, u "$assertionsDisabled"), (0, u "Z"), (88, u "(II)I"), (2, u "twoToTheDoubleScaleDown"), (0, u "D"), (4, u "twoToTheDoubleScaleUp"), (9, u "E"), (3, u "PI"), (2, u "TAU"), (2, u "DEGREES_TO_RADIANS"), (0, u "RADIANS_TO_DEGREES")] 94

def k16m0 : Method := { name := "<init>", desc := "()V", sig := { parameters := [], returnType := none }, accessFlags := 2, code := none }
def k16c1 : Code := { maxStack := 2, maxLocals := 2, code := jdk_29_method_69_code, exceptionTable := #[], attributes := #[] }
def k16m1 : Method := { name := "min", desc := "(II)I", sig := { parameters := [.int, .int], returnType := some .int }, accessFlags := 9, code := some k16c1 }
/-- java/lang/Math -/
def k16 : Class := { plain "java/lang/Math" (some 0) with
  accessFlags := 49
  interfaces := #[]
  cf := some (fileOf pool16 1 #[.nestMembers #[98]] #[{ accessFlags := 2, nameIndex := 7, descriptorIndex := 8, attributes := #[] }, { accessFlags := 9, nameIndex := 201, descriptorIndex := 335, attributes := #[] }] 49 4 #[] #[{ accessFlags := 25, nameIndex := 354, descriptorIndex := 339, attributes := #[] }, { accessFlags := 25, nameIndex := 358, descriptorIndex := 339, attributes := #[] }, { accessFlags := 25, nameIndex := 361, descriptorIndex := 339, attributes := #[] }, { accessFlags := 26, nameIndex := 364, descriptorIndex := 339, attributes := #[] }, { accessFlags := 26, nameIndex := 365, descriptorIndex := 339, attributes := #[] }, { accessFlags := 26, nameIndex := 172, descriptorIndex := 173, attributes := #[] }, { accessFlags := 26, nameIndex := 176, descriptorIndex := 173, attributes := #[] }, { accessFlags := 8, nameIndex := 344, descriptorIndex := 339, attributes := #[] }, { accessFlags := 8, nameIndex := 338, descriptorIndex := 339, attributes := #[] }, { accessFlags := 4120, nameIndex := 245, descriptorIndex := 246, attributes := #[] }])
  fields := #[{ name := "E", type := .double, accessFlags := 25, slot := 0, constantValue := 0 }, { name := "PI", type := .double, accessFlags := 25, slot := 1, constantValue := 0 }, { name := "TAU", type := .double, accessFlags := 25, slot := 2, constantValue := 0 }, { name := "DEGREES_TO_RADIANS", type := .double, accessFlags := 26, slot := 3, constantValue := 0 }, { name := "RADIANS_TO_DEGREES", type := .double, accessFlags := 26, slot := 4, constantValue := 0 }, { name := "negativeZeroFloatBits", type := .long, accessFlags := 26, slot := 5, constantValue := 0 }, { name := "negativeZeroDoubleBits", type := .long, accessFlags := 26, slot := 6, constantValue := 0 }, { name := "twoToTheDoubleScaleUp", type := .double, accessFlags := 8, slot := 7, constantValue := 0 }, { name := "twoToTheDoubleScaleDown", type := .double, accessFlags := 8, slot := 8, constantValue := 0 }, { name := "$assertionsDisabled", type := .boolean, accessFlags := 4120, slot := 9, constantValue := 0 }]
  methods := #[k16m0, k16m1]
  instanceTypes := #[]
  staticTypes := #[.double, .double, .double, .double, .double, .long, .long, .double, .double, .boolean]
  resolved := Array.replicate 460 none
  statics := none }

def pool17 : Array CpInfo := pool [(2, .class_ 4), (1, u "java/lang/Object"), (0, u "<init>"), (0, u "()V"), (1, .class_ 10), (1, u "java/lang/System"), (0, u "allowSecurityManager"), (0, u "I"), (16, u "cons"), (0, u "Ljava/io/Console;"), (77, .class_ 110), (1, u "java/lang/System$CallersHolder"), (43, u "initialErrStream"), (0, u "Ljava/io/PrintStream;"), (19, u "security"), (0, u "Ljava/lang/SecurityManager;"), (31, .class_ 209), (0, u "java/lang/System$1"), (7, u "props"), (0, u "Ljava/util/Properties;"), (2, u "lineSeparator"), (0, u "Ljava/lang/String;"), (96, .class_ 321), (1, u "java/lang/System$LoggerFinder"), (5, .class_ 328), (0, u "java/lang/System$Logger"), (67, u "err"), (2, u "out"), (91, u "notSupportedJnuEncoding"), (15, u "in"), (17, u "initialIn"), (0, u "Ljava/io/InputStream;"), (35, u "bootLayer"), (0, u "Ljava/lang/ModuleLayer;"), (99, .class_ 664), (0, u "java/lang/System$2"), (9, u "NEVER"), (2, u "MAYBE"), (49, u "arraycopy"), (0, u "(Ljava/lang/Object;ILjava/lang/Object;II)V"), (72, .class_ 802), (0, u "java/lang/System$Logger$Level")] 31

def k17m0 : Method := { name := "<init>", desc := "()V", sig := { parameters := [], returnType := none }, accessFlags := 2, code := none }
def k17m1 : Method := { name := "arraycopy", desc := "(Ljava/lang/Object;ILjava/lang/Object;II)V", sig := { parameters := [(.object "java/lang/Object"), .int, (.object "java/lang/Object"), .int, .int], returnType := none }, accessFlags := 265, code := none }
/-- java/lang/System -/
def k17 : Class := { plain "java/lang/System" (some 0) with
  accessFlags := 49
  interfaces := #[]
  cf := some (fileOf pool17 8 #[.nestMembers #[319, 327, 801, 108, 663, 208]] #[{ accessFlags := 2, nameIndex := 5, descriptorIndex := 6, attributes := #[] }, { accessFlags := 265, nameIndex := 727, descriptorIndex := 728, attributes := #[] }] 49 2 #[] #[{ accessFlags := 25, nameIndex := 507, descriptorIndex := 526, attributes := #[] }, { accessFlags := 25, nameIndex := 399, descriptorIndex := 155, attributes := #[] }, { accessFlags := 25, nameIndex := 396, descriptorIndex := 155, attributes := #[] }, { accessFlags := 10, nameIndex := 525, descriptorIndex := 526, attributes := #[] }, { accessFlags := 26, nameIndex := 674, descriptorIndex := 12, attributes := #[] }, { accessFlags := 26, nameIndex := 677, descriptorIndex := 12, attributes := #[] }, { accessFlags := 10, nameIndex := 11, descriptorIndex := 12, attributes := #[] }, { accessFlags := 74, nameIndex := 175, descriptorIndex := 176, attributes := #[] }, { accessFlags := 10, nameIndex := 491, descriptorIndex := 222, attributes := #[] }, { accessFlags := 74, nameIndex := 29, descriptorIndex := 30, attributes := #[] }, { accessFlags := 74, nameIndex := 154, descriptorIndex := 155, attributes := #[] }, { accessFlags := 10, nameIndex := 217, descriptorIndex := 218, attributes := #[] }, { accessFlags := 10, nameIndex := 221, descriptorIndex := 222, attributes := #[] }, { accessFlags := 8, nameIndex := 562, descriptorIndex := 563, attributes := #[] }])
  fields := #[{ name := "in", type := (.object "java/io/InputStream"), accessFlags := 25, slot := 0, constantValue := 0 }, { name := "out", type := (.object "java/io/PrintStream"), accessFlags := 25, slot := 1, constantValue := 0 }, { name := "err", type := (.object "java/io/PrintStream"), accessFlags := 25, slot := 2, constantValue := 0 }, { name := "initialIn", type := (.object "java/io/InputStream"), accessFlags := 10, slot := 3, constantValue := 0 }, { name := "NEVER", type := .int, accessFlags := 26, slot := 4, constantValue := 0 }, { name := "MAYBE", type := .int, accessFlags := 26, slot := 5, constantValue := 0 }, { name := "allowSecurityManager", type := .int, accessFlags := 10, slot := 6, constantValue := 0 }, { name := "security", type := (.object "java/lang/SecurityManager"), accessFlags := 74, slot := 7, constantValue := 0 }, { name := "notSupportedJnuEncoding", type := (.object "java/lang/String"), accessFlags := 10, slot := 8, constantValue := 0 }, { name := "cons", type := (.object "java/io/Console"), accessFlags := 74, slot := 9, constantValue := 0 }, { name := "initialErrStream", type := (.object "java/io/PrintStream"), accessFlags := 74, slot := 10, constantValue := 0 }, { name := "props", type := (.object "java/util/Properties"), accessFlags := 10, slot := 11, constantValue := 0 }, { name := "lineSeparator", type := (.object "java/lang/String"), accessFlags := 10, slot := 12, constantValue := 0 }, { name := "bootLayer", type := (.object "java/lang/ModuleLayer"), accessFlags := 8, slot := 13, constantValue := 0 }]
  methods := #[k17m0, k17m1]
  instanceTypes := #[]
  staticTypes := #[(.object "java/io/InputStream"), (.object "java/io/PrintStream"), (.object "java/io/PrintStream"), (.object "java/io/InputStream"), .int, .int, .int, (.object "java/lang/SecurityManager"), (.object "java/lang/String"), (.object "java/io/Console"), (.object "java/io/PrintStream"), (.object "java/util/Properties"), (.object "java/lang/String"), (.object "java/lang/ModuleLayer")]
  resolved := Array.replicate 834 none
  statics := none }

def pool18 : Array CpInfo := pool [(9, u "<init>"), (6, .class_ 18), (1, u "java/lang/Object"), (0, u "()V"), (1, .class_ 23), (1, u "jdk/internal/util/ArraysSupport"), (0, u "LOG2_ARRAY_LONG_INDEX_SCALE"), (0, u "I"), (2, u "U"), (0, u "Ljdk/internal/misc/Unsafe;"), (8, u "BIG_ENDIAN"), (0, u "Z"), (8, u "LOG2_BYTE_BIT_SIZE"), (4, u "LOG2_ARRAY_INT_INDEX_SCALE"), (54, u "JLA"), (0, u "Ljdk/internal/access/JavaLangAccess;"), (11, u "LOG2_ARRAY_BOOLEAN_INDEX_SCALE"), (9, u "LOG2_ARRAY_BYTE_INDEX_SCALE"), (5, u "LOG2_ARRAY_CHAR_INDEX_SCALE"), (5, u "LOG2_ARRAY_SHORT_INDEX_SCALE"), (18, u "LOG2_ARRAY_FLOAT_INDEX_SCALE"), (24, u "LOG2_ARRAY_DOUBLE_INDEX_SCALE"), (89, u "T_BOOLEAN"), (2, u "T_CHAR"), (1, u "T_FLOAT"), (1, u "T_DOUBLE"), (1, u "T_BYTE"), (1, u "T_SHORT"), (1, u "T_INT"), (1, u "T_LONG"), (1, u "SOFT_MAX_ARRAY_LENGTH")] 83

def k18m0 : Method := { name := "<init>", desc := "()V", sig := { parameters := [], returnType := none }, accessFlags := 2, code := none }
/-- jdk/internal/util/ArraysSupport -/
def k18 : Class := { plain "jdk/internal/util/ArraysSupport" (some 0) with
  accessFlags := 33
  interfaces := #[]
  cf := some (fileOf pool18 21 #[] #[{ accessFlags := 2, nameIndex := 9, descriptorIndex := 19, attributes := #[] }] 33 16 #[] #[{ accessFlags := 24, nameIndex := 28, descriptorIndex := 29, attributes := #[] }, { accessFlags := 26, nameIndex := 38, descriptorIndex := 39, attributes := #[] }, { accessFlags := 25, nameIndex := 121, descriptorIndex := 25, attributes := #[] }, { accessFlags := 25, nameIndex := 131, descriptorIndex := 25, attributes := #[] }, { accessFlags := 25, nameIndex := 137, descriptorIndex := 25, attributes := #[] }, { accessFlags := 25, nameIndex := 143, descriptorIndex := 25, attributes := #[] }, { accessFlags := 25, nameIndex := 53, descriptorIndex := 25, attributes := #[] }, { accessFlags := 25, nameIndex := 24, descriptorIndex := 25, attributes := #[] }, { accessFlags := 25, nameIndex := 162, descriptorIndex := 25, attributes := #[] }, { accessFlags := 25, nameIndex := 187, descriptorIndex := 25, attributes := #[] }, { accessFlags := 26, nameIndex := 48, descriptorIndex := 25, attributes := #[] }, { accessFlags := 25, nameIndex := 277, descriptorIndex := 25, attributes := #[] }, { accessFlags := 25, nameIndex := 280, descriptorIndex := 25, attributes := #[] }, { accessFlags := 25, nameIndex := 282, descriptorIndex := 25, attributes := #[] }, { accessFlags := 25, nameIndex := 284, descriptorIndex := 25, attributes := #[] }, { accessFlags := 25, nameIndex := 286, descriptorIndex := 25, attributes := #[] }, { accessFlags := 25, nameIndex := 288, descriptorIndex := 25, attributes := #[] }, { accessFlags := 25, nameIndex := 290, descriptorIndex := 25, attributes := #[] }, { accessFlags := 25, nameIndex := 292, descriptorIndex := 25, attributes := #[] }, { accessFlags := 26, nameIndex := 108, descriptorIndex := 109, attributes := #[] }, { accessFlags := 25, nameIndex := 294, descriptorIndex := 25, attributes := #[] }])
  fields := #[{ name := "U", type := (.object "jdk/internal/misc/Unsafe"), accessFlags := 24, slot := 0, constantValue := 0 }, { name := "BIG_ENDIAN", type := .boolean, accessFlags := 26, slot := 1, constantValue := 0 }, { name := "LOG2_ARRAY_BOOLEAN_INDEX_SCALE", type := .int, accessFlags := 25, slot := 2, constantValue := 0 }, { name := "LOG2_ARRAY_BYTE_INDEX_SCALE", type := .int, accessFlags := 25, slot := 3, constantValue := 0 }, { name := "LOG2_ARRAY_CHAR_INDEX_SCALE", type := .int, accessFlags := 25, slot := 4, constantValue := 0 }, { name := "LOG2_ARRAY_SHORT_INDEX_SCALE", type := .int, accessFlags := 25, slot := 5, constantValue := 0 }, { name := "LOG2_ARRAY_INT_INDEX_SCALE", type := .int, accessFlags := 25, slot := 6, constantValue := 0 }, { name := "LOG2_ARRAY_LONG_INDEX_SCALE", type := .int, accessFlags := 25, slot := 7, constantValue := 0 }, { name := "LOG2_ARRAY_FLOAT_INDEX_SCALE", type := .int, accessFlags := 25, slot := 8, constantValue := 0 }, { name := "LOG2_ARRAY_DOUBLE_INDEX_SCALE", type := .int, accessFlags := 25, slot := 9, constantValue := 0 }, { name := "LOG2_BYTE_BIT_SIZE", type := .int, accessFlags := 26, slot := 10, constantValue := 0 }, { name := "T_BOOLEAN", type := .int, accessFlags := 25, slot := 11, constantValue := 0 }, { name := "T_CHAR", type := .int, accessFlags := 25, slot := 12, constantValue := 0 }, { name := "T_FLOAT", type := .int, accessFlags := 25, slot := 13, constantValue := 0 }, { name := "T_DOUBLE", type := .int, accessFlags := 25, slot := 14, constantValue := 0 }, { name := "T_BYTE", type := .int, accessFlags := 25, slot := 15, constantValue := 0 }, { name := "T_SHORT", type := .int, accessFlags := 25, slot := 16, constantValue := 0 }, { name := "T_INT", type := .int, accessFlags := 25, slot := 17, constantValue := 0 }, { name := "T_LONG", type := .int, accessFlags := 25, slot := 18, constantValue := 0 }, { name := "JLA", type := (.object "jdk/internal/access/JavaLangAccess"), accessFlags := 26, slot := 19, constantValue := 0 }, { name := "SOFT_MAX_ARRAY_LENGTH", type := .int, accessFlags := 25, slot := 20, constantValue := 0 }]
  methods := #[k18m0]
  instanceTypes := #[]
  staticTypes := #[(.object "jdk/internal/misc/Unsafe"), .boolean, .int, .int, .int, .int, .int, .int, .int, .int, .int, .int, .int, .int, .int, .int, .int, .int, .int, (.object "jdk/internal/access/JavaLangAccess"), .int]
  resolved := Array.replicate 378 none
  statics := none }

def pool19 : Array CpInfo := pool [(1, u "java/lang/Cloneable"), (0, .class_ 1), (0, u "java/lang/Object"), (0, .class_ 3)] 3

/-- java/lang/Cloneable -/
def k19 : Class := { plain "java/lang/Cloneable" (some 0) with
  accessFlags := 1537
  interfaces := #[]
  cf := some (fileOf pool19 2 #[] #[] 1537 4 #[] #[])
  fields := #[]
  methods := #[]
  instanceTypes := #[]
  staticTypes := #[]
  resolved := Array.replicate 8 none
  statics := none }

/-- the primitive byte -/
def k20 : Class := { plain "byte" none with kind := .primitive 'B', accessFlags := 0x411 }
/-- [B -/
def k21 : Class := { plain "[B" (some 0) with kind := .array 20 .byte, interfaces := #[19, 2], accessFlags := 1041 }

/-- the primitive char -/
def k22 : Class := { plain "char" none with kind := .primitive 'C', accessFlags := 0x411 }
/-- [C -/
def k23 : Class := { plain "[C" (some 0) with kind := .array 22 .char, interfaces := #[19, 2], accessFlags := 1041 }

/-- the primitive int -/
def k24 : Class := { plain "int" none with kind := .primitive 'I', accessFlags := 0x411 }
/-- [I -/
def k25 : Class := { plain "[I" (some 0) with kind := .array 24 .int, interfaces := #[19, 2], accessFlags := 1041 }

def heap : Heap := #[{ cls := 7, slots := #[.long 0, .int 1, .null, .int 0, .null, .int 0, .int 0], vm := .statics 7 },
  { cls := 11, slots := #[.null, .null, .null], vm := .statics 11 }]
def classes : Array Class := #[k0, k1, k2, k3, k4, k5, k6, k7, k8, k9, k10, k11, k12, k13, k14, k15, k16, k17, k18, k19, k20, k21, k22, k23, k24, k25]
def interned : List (Array UInt16 × Addr) := []
def slotsUsed : Nat := 10
def theMethod : MethodId := ⟨1, 3⟩
def args0 : Array Value := #[.int 5, .int 5, .int 5, .int 5]
def aboutOver (below : List Frame) : State where
  vm := { classes := classes, interned := interned.toArray }
  heap := heap
  slotsUsed := slotsUsed
  threads := #[{ frames := .invoking theMethod args0 :: below }]
def below0 : List Frame := [.native { method := ⟨0, 0⟩, args := #[] }]
def about1 : State := aboutOver below0
def p0 : Program := .bare "" "" ""
def e0 : Env := launch0.env 0 0 0
theorem w_frames : about1.frames = Frame.invoking theMethod args0 :: below0 := rfl
set_option maxRecDepth 65536 in
theorem w_args : argsFit about1.vm theMethod args0 = true := by decide +kernel
set_option maxRecDepth 65536 in
theorem w_heap : heapFits about1 = true := by decide +kernel
set_option maxRecDepth 65536 in
theorem w_runnable : about1.curStatus? = some .runnable := by decide +kernel
set_option maxRecDepth 65536 in
theorem w_alone : about1.alone = true := by decide +kernel
set_option maxRecDepth 65536 in
theorem w_named : about1.methodNamed? x = some theMethod := by decide +kernel
set_option maxRecDepth 65536 in
theorem w_hears : about1.hears theMethod below0 = true := by decide +kernel
set_option maxRecDepth 65536 in
theorem w_ripe : about1.ripe theMethod args0 below0 = true := by decide +kernel
theorem w_running : about1.status = .running := rfl
set_option maxRecDepth 65536 in
theorem w_room : about1.hasRoom e0.platform room_1 = true :=
  launch0.hasRoom_least _ room_1 (by decide +kernel) (by decide +kernel) (by decide +kernel) (by decide +kernel) (by decide +kernel) (by decide +kernel)
theorem allAtoms_all (ts : List Jvm.Cond) (a : Array Jvm.Value) (st : Jvm.State) : (allAtoms ts).before a st = ts.all (fun c => c.before a st) := by
  induction ts with
  | nil => rfl
  | cons c t ih =>
    show (Jvm.Cond.and c (allAtoms t)).before a st = _
    rw [Jvm.Cond.before_and, ih, List.all_cons]
def words1 : List Jvm.Cond := Jvm.Cond.code x code maxLocals ret :: tables_1
/-- a 'code' word, met by the world's own term for the bytes: nothing is compared byte by byte -/
theorem code_word {y : MethodName} {bytes : ByteArray} {mx : Nat} {rt : Option FieldType} {a : Array Value} {s : State} {m : MethodId} {meth : Method} {c : Code} (h1 : s.methodNamed? y = some m) (h2 : s.vm.method? m = some meth) (h3 : meth.code = some c) (h4 : c.code = bytes)
    (h5 : (c.maxLocals == mx && c.exceptionTable.isEmpty && decide (c.maxStack ≤ mostOperands) && decide (meth.sig.returnType = rt) && !meth.locks && decide (parseMethodDescriptor y.desc = some meth.sig)) = true) : (Jvm.Cond.code y bytes mx rt).before a s = true := by
  simp only [Bool.and_eq_true, beq_iff_eq, Bool.not_eq_true', decide_eq_true_eq] at h5
  obtain ⟨⟨⟨⟨⟨g1, g2⟩, g3⟩, g4⟩, g5⟩, g6⟩ := h5
  simp [Cond.before, Cond.holds, Cond.value, h1, h2, h3, h4, g1, g2, g3, g4, g5, g6]
def isCode : Jvm.Cond → Bool
  | .code _ _ _ _ => true
  | _ => false
theorem all_split {L : List Jvm.Cond} {P : Jvm.Cond → Bool} (h1 : L.all (fun c => isCode c || P c) = true) (h2 : ∀ c ∈ L.filter isCode, P c = true) : L.all P = true := by
  refine List.all_eq_true.mpr fun c hc => ?_
  have h := List.all_eq_true.mp h1 c hc
  rcases Bool.eq_false_or_eq_true (isCode c) with hi | hi
  · exact h2 c (List.mem_filter.mpr ⟨hc, hi⟩)
  · simpa [hi] using h
set_option maxRecDepth 65536 in
theorem w_c0 : (Jvm.Cond.code x code maxLocals ret).before args0 about1 = true := code_word (m := ⟨1, 3⟩) (meth := k1m3) (c := k1c3) (by decide +kernel) rfl rfl rfl (by decide +kernel)
set_option maxRecDepth 65536 in
theorem w_c1 : (Jvm.Cond.code ({ cls := "com/example/tidelock/tidelock/server/StructuredFieldsStringPinLaw", name := "unitChar", desc := "(I)C" } : Jvm.MethodName) method_2_code (2 : Nat) (Option.some Jvm.ClassFile.FieldType.char)).before args0 about1 = true := code_word (m := ⟨1, 1⟩) (meth := k1m1) (c := k1c1) (by decide +kernel) rfl rfl rfl (by decide +kernel)
set_option maxRecDepth 65536 in
theorem w_c2 : (Jvm.Cond.code ({ cls := "java/lang/String", name := "<init>", desc := "([C)V" } : Jvm.MethodName) jdk_42_method_3_code (2 : Nat) (Option.none : Option Jvm.ClassFile.FieldType)).before args0 about1 = true := code_word (m := ⟨7, 1⟩) (meth := k7m1) (c := k7c1) (by decide +kernel) rfl rfl rfl (by decide +kernel)
set_option maxRecDepth 65536 in
theorem w_c3 : (Jvm.Cond.code ({ cls := "java/lang/String", name := "<init>", desc := "([CIILjava/lang/Void;)V" } : Jvm.MethodName) jdk_42_method_149_code (6 : Nat) (Option.none : Option Jvm.ClassFile.FieldType)).before args0 about1 = true := code_word (m := ⟨7, 5⟩) (meth := k7m5) (c := k7c5) (by decide +kernel) rfl rfl rfl (by decide +kernel)
set_option maxRecDepth 65536 in
theorem w_c4 : (Jvm.Cond.code ({ cls := "java/lang/Object", name := "<init>", desc := "()V" } : Jvm.MethodName) object_method_1_code (1 : Nat) (Option.none : Option Jvm.ClassFile.FieldType)).before args0 about1 = true := code_word (m := ⟨0, 0⟩) (meth := k0m0) (c := k0c0) (by decide +kernel) rfl rfl rfl (by decide +kernel)
set_option maxRecDepth 65536 in
theorem w_c5 : (Jvm.Cond.code ({ cls := "java/lang/StringUTF16", name := "compress", desc := "([CII)[B" } : Jvm.MethodName) jdk_52_method_16_code (6 : Nat) (Option.some (Jvm.ClassFile.FieldType.array Jvm.ClassFile.FieldType.byte))).before args0 about1 = true := code_word (m := ⟨8, 2⟩) (meth := k8m2) (c := k8c2) (by decide +kernel) rfl rfl rfl (by decide +kernel)
set_option maxRecDepth 65536 in
theorem w_c6 : (Jvm.Cond.code ({ cls := "java/lang/StringUTF16", name := "compress", desc := "([CI[BII)I" } : Jvm.MethodName) jdk_52_method_21_code (7 : Nat) (Option.some Jvm.ClassFile.FieldType.int)).before args0 about1 = true := code_word (m := ⟨8, 3⟩) (meth := k8m3) (c := k8c3) (by decide +kernel) rfl rfl rfl (by decide +kernel)
set_option maxRecDepth 65536 in
theorem w_c7 : (Jvm.Cond.code ({ cls := "java/lang/StringUTF16", name := "coderFromArrayLen", desc := "([BI)B" } : Jvm.MethodName) jdk_52_method_15_code (2 : Nat) (Option.some Jvm.ClassFile.FieldType.byte)).before args0 about1 = true := code_word (m := ⟨8, 1⟩) (meth := k8m1) (c := k8c1) (by decide +kernel) rfl rfl rfl (by decide +kernel)
set_option maxRecDepth 65536 in
theorem w_c8 : (Jvm.Cond.code ({ cls := "com/example/tidelock/tidelock/server/StructuredFields", name := "string", desc := "(Ljava/lang/String;)Ljava/lang/String;" } : Jvm.MethodName) prog_20_method_2_code (5 : Nat) (Option.some (Jvm.ClassFile.FieldType.object "java/lang/String"))).before args0 about1 = true := code_word (m := ⟨9, 1⟩) (meth := k9m1) (c := k9c1) (by decide +kernel) rfl rfl rfl (by decide +kernel)
set_option maxRecDepth 65536 in
theorem w_c9 : (Jvm.Cond.code ({ cls := "java/lang/String", name := "length", desc := "()I" } : Jvm.MethodName) jdk_42_method_54_code (1 : Nat) (Option.some Jvm.ClassFile.FieldType.int)).before args0 about1 = true := code_word (m := ⟨7, 3⟩) (meth := k7m3) (c := k7c3) (by decide +kernel) rfl rfl rfl (by decide +kernel)
set_option maxRecDepth 65536 in
theorem w_c10 : (Jvm.Cond.code ({ cls := "java/lang/String", name := "coder", desc := "()B" } : Jvm.MethodName) jdk_42_method_152_code (1 : Nat) (Option.some Jvm.ClassFile.FieldType.byte)).before args0 about1 = true := code_word (m := ⟨7, 7⟩) (meth := k7m7) (c := k7c7) (by decide +kernel) rfl rfl rfl (by decide +kernel)
set_option maxRecDepth 65536 in
theorem w_c11 : (Jvm.Cond.code ({ cls := "java/lang/String", name := "charAt", desc := "(I)C" } : Jvm.MethodName) jdk_42_method_56_code (2 : Nat) (Option.some Jvm.ClassFile.FieldType.char)).before args0 about1 = true := code_word (m := ⟨7, 4⟩) (meth := k7m4) (c := k7c4) (by decide +kernel) rfl rfl rfl (by decide +kernel)
set_option maxRecDepth 65536 in
theorem w_c12 : (Jvm.Cond.code ({ cls := "java/lang/String", name := "isLatin1", desc := "()Z" } : Jvm.MethodName) jdk_42_method_154_code (1 : Nat) (Option.some Jvm.ClassFile.FieldType.boolean)).before args0 about1 = true := code_word (m := ⟨7, 8⟩) (meth := k7m8) (c := k7c8) (by decide +kernel) rfl rfl rfl (by decide +kernel)
set_option maxRecDepth 65536 in
theorem w_c13 : (Jvm.Cond.code ({ cls := "java/lang/StringLatin1", name := "charAt", desc := "([BI)C" } : Jvm.MethodName) jdk_43_method_2_code (2 : Nat) (Option.some Jvm.ClassFile.FieldType.char)).before args0 about1 = true := code_word (m := ⟨10, 1⟩) (meth := k10m1) (c := k10c1) (by decide +kernel) rfl rfl rfl (by decide +kernel)
set_option maxRecDepth 65536 in
theorem w_c14 : (Jvm.Cond.code ({ cls := "java/lang/String", name := "checkIndex", desc := "(II)V" } : Jvm.MethodName) jdk_42_method_155_code (2 : Nat) (Option.none : Option Jvm.ClassFile.FieldType)).before args0 about1 = true := code_word (m := ⟨7, 9⟩) (meth := k7m9) (c := k7c9) (by decide +kernel) rfl rfl rfl (by decide +kernel)
set_option maxRecDepth 65536 in
theorem w_c15 : (Jvm.Cond.code ({ cls := "jdk/internal/util/Preconditions", name := "checkIndex", desc := "(IILjava/util/function/BiFunction;)I" } : Jvm.MethodName) jdk_41_method_11_code (3 : Nat) (Option.some Jvm.ClassFile.FieldType.int)).before args0 about1 = true := code_word (m := ⟨11, 1⟩) (meth := k11m1) (c := k11c1) (by decide +kernel) rfl rfl rfl (by decide +kernel)
set_option maxRecDepth 65536 in
theorem w_c16 : (Jvm.Cond.code ({ cls := "java/lang/StringBuilder", name := "<init>", desc := "()V" } : Jvm.MethodName) jdk_67_method_1_code (1 : Nat) (Option.none : Option Jvm.ClassFile.FieldType)).before args0 about1 = true := code_word (m := ⟨14, 0⟩) (meth := k14m0) (c := k14c0) (by decide +kernel) rfl rfl rfl (by decide +kernel)
set_option maxRecDepth 65536 in
theorem w_c17 : (Jvm.Cond.code ({ cls := "java/lang/AbstractStringBuilder", name := "<init>", desc := "(I)V" } : Jvm.MethodName) jdk_68_method_2_code (2 : Nat) (Option.none : Option Jvm.ClassFile.FieldType)).before args0 about1 = true := code_word (m := ⟨13, 1⟩) (meth := k13m1) (c := k13c1) (by decide +kernel) rfl rfl rfl (by decide +kernel)
set_option maxRecDepth 65536 in
theorem w_c18 : (Jvm.Cond.code ({ cls := "java/lang/StringBuilder", name := "toString", desc := "()Ljava/lang/String;" } : Jvm.MethodName) jdk_67_method_42_code (1 : Nat) (Option.some (Jvm.ClassFile.FieldType.object "java/lang/String"))).before args0 about1 = true := code_word (m := ⟨14, 2⟩) (meth := k14m2) (c := k14c2) (by decide +kernel) rfl rfl rfl (by decide +kernel)
set_option maxRecDepth 65536 in
theorem w_c19 : (Jvm.Cond.code ({ cls := "java/lang/String", name := "<init>", desc := "(Ljava/lang/StringBuilder;)V" } : Jvm.MethodName) jdk_42_method_53_code (2 : Nat) (Option.none : Option Jvm.ClassFile.FieldType)).before args0 about1 = true := code_word (m := ⟨7, 2⟩) (meth := k7m2) (c := k7c2) (by decide +kernel) rfl rfl rfl (by decide +kernel)
set_option maxRecDepth 65536 in
theorem w_c20 : (Jvm.Cond.code ({ cls := "java/lang/String", name := "<init>", desc := "(Ljava/lang/AbstractStringBuilder;Ljava/lang/Void;)V" } : Jvm.MethodName) jdk_42_method_150_code (5 : Nat) (Option.none : Option Jvm.ClassFile.FieldType)).before args0 about1 = true := code_word (m := ⟨7, 6⟩) (meth := k7m6) (c := k7c6) (by decide +kernel) rfl rfl rfl (by decide +kernel)
set_option maxRecDepth 65536 in
theorem w_c21 : (Jvm.Cond.code ({ cls := "java/lang/AbstractStringBuilder", name := "getValue", desc := "()[B" } : Jvm.MethodName) jdk_68_method_64_code (1 : Nat) (Option.some (Jvm.ClassFile.FieldType.array Jvm.ClassFile.FieldType.byte))).before args0 about1 = true := code_word (m := ⟨13, 5⟩) (meth := k13m5) (c := k13c5) (by decide +kernel) rfl rfl rfl (by decide +kernel)
set_option maxRecDepth 65536 in
theorem w_c22 : (Jvm.Cond.code ({ cls := "java/lang/StringBuilder", name := "length", desc := "()I" } : Jvm.MethodName) jdk_67_method_93_code (1 : Nat) (Option.some Jvm.ClassFile.FieldType.int)).before args0 about1 = true := code_word (m := ⟨14, 3⟩) (meth := k14m3) (c := k14c3) (by decide +kernel) rfl rfl rfl (by decide +kernel)
set_option maxRecDepth 65536 in
theorem w_c23 : (Jvm.Cond.code ({ cls := "java/lang/AbstractStringBuilder", name := "length", desc := "()I" } : Jvm.MethodName) jdk_68_method_6_code (1 : Nat) (Option.some Jvm.ClassFile.FieldType.int)).before args0 about1 = true := code_word (m := ⟨13, 2⟩) (meth := k13m2) (c := k13c2) (by decide +kernel) rfl rfl rfl (by decide +kernel)
set_option maxRecDepth 65536 in
theorem w_c24 : (Jvm.Cond.code ({ cls := "java/lang/AbstractStringBuilder", name := "isLatin1", desc := "()Z" } : Jvm.MethodName) jdk_68_method_68_code (1 : Nat) (Option.some Jvm.ClassFile.FieldType.boolean)).before args0 about1 = true := code_word (m := ⟨13, 6⟩) (meth := k13m6) (c := k13c6) (by decide +kernel) rfl rfl rfl (by decide +kernel)
set_option maxRecDepth 65536 in
theorem w_c25 : (Jvm.Cond.code ({ cls := "java/util/Arrays", name := "copyOfRange", desc := "([BII)[B" } : Jvm.MethodName) jdk_65_method_132_code (3 : Nat) (Option.some (Jvm.ClassFile.FieldType.array Jvm.ClassFile.FieldType.byte))).before args0 about1 = true := code_word (m := ⟨15, 2⟩) (meth := k15m2) (c := k15c2) (by decide +kernel) rfl rfl rfl (by decide +kernel)
set_option maxRecDepth 65536 in
theorem w_c26 : (Jvm.Cond.code ({ cls := "java/util/Arrays", name := "copyOfRangeByte", desc := "([BII)[B" } : Jvm.MethodName) jdk_65_method_133_code (5 : Nat) (Option.some (Jvm.ClassFile.FieldType.array Jvm.ClassFile.FieldType.byte))).before args0 about1 = true := code_word (m := ⟨15, 3⟩) (meth := k15m3) (c := k15c3) (by decide +kernel) rfl rfl rfl (by decide +kernel)
set_option maxRecDepth 65536 in
theorem w_c27 : (Jvm.Cond.code ({ cls := "java/util/Arrays", name := "checkLength", desc := "(II)V" } : Jvm.MethodName) jdk_65_method_131_code (2 : Nat) (Option.none : Option Jvm.ClassFile.FieldType)).before args0 about1 = true := code_word (m := ⟨15, 1⟩) (meth := k15m1) (c := k15c1) (by decide +kernel) rfl rfl rfl (by decide +kernel)
set_option maxRecDepth 65536 in
theorem w_c28 : (Jvm.Cond.code ({ cls := "java/lang/Math", name := "min", desc := "(II)I" } : Jvm.MethodName) jdk_29_method_69_code (2 : Nat) (Option.some Jvm.ClassFile.FieldType.int)).before args0 about1 = true := code_word (m := ⟨16, 1⟩) (meth := k16m1) (c := k16c1) (by decide +kernel) rfl rfl rfl (by decide +kernel)
set_option maxRecDepth 65536 in
theorem w_c29 : (Jvm.Cond.code ({ cls := "com/example/tidelock/tidelock/server/StructuredFieldsStringPinLaw", name := "put", desc := "([CIC)I" } : Jvm.MethodName) method_3_code (3 : Nat) (Option.some Jvm.ClassFile.FieldType.int)).before args0 about1 = true := code_word (m := ⟨1, 2⟩) (meth := k1m2) (c := k1c2) (by decide +kernel) rfl rfl rfl (by decide +kernel)
set_option maxRecDepth 65536 in
theorem w_c30 : (Jvm.Cond.code ({ cls := "java/lang/StringBuilder", name := "append", desc := "(C)Ljava/lang/StringBuilder;" } : Jvm.MethodName) jdk_67_method_14_code (2 : Nat) (Option.some (Jvm.ClassFile.FieldType.object "java/lang/StringBuilder"))).before args0 about1 = true := code_word (m := ⟨14, 1⟩) (meth := k14m1) (c := k14c1) (by decide +kernel) rfl rfl rfl (by decide +kernel)
set_option maxRecDepth 65536 in
theorem w_c31 : (Jvm.Cond.code ({ cls := "java/lang/AbstractStringBuilder", name := "append", desc := "(C)Ljava/lang/AbstractStringBuilder;" } : Jvm.MethodName) jdk_68_method_31_code (2 : Nat) (Option.some (Jvm.ClassFile.FieldType.object "java/lang/AbstractStringBuilder"))).before args0 about1 = true := code_word (m := ⟨13, 4⟩) (meth := k13m4) (c := k13c4) (by decide +kernel) rfl rfl rfl (by decide +kernel)
set_option maxRecDepth 65536 in
theorem w_c32 : (Jvm.Cond.code ({ cls := "java/lang/AbstractStringBuilder", name := "ensureCapacityInternal", desc := "(I)V" } : Jvm.MethodName) jdk_68_method_9_code (3 : Nat) (Option.none : Option Jvm.ClassFile.FieldType)).before args0 about1 = true := code_word (m := ⟨13, 3⟩) (meth := k13m3) (c := k13c3) (by decide +kernel) rfl rfl rfl (by decide +kernel)
set_option maxRecDepth 65536 in
theorem w_c33 : (Jvm.Cond.code ({ cls := "java/lang/StringLatin1", name := "canEncode", desc := "(C)Z" } : Jvm.MethodName) jdk_43_method_3_code (1 : Nat) (Option.some Jvm.ClassFile.FieldType.boolean)).before args0 about1 = true := code_word (m := ⟨10, 2⟩) (meth := k10m2) (c := k10c2) (by decide +kernel) rfl rfl rfl (by decide +kernel)
def codes1 : List Jvm.Cond := [Jvm.Cond.code x code maxLocals ret, Jvm.Cond.code ({ cls := "com/example/tidelock/tidelock/server/StructuredFieldsStringPinLaw", name := "unitChar", desc := "(I)C" } : Jvm.MethodName) method_2_code (2 : Nat) (Option.some Jvm.ClassFile.FieldType.char), Jvm.Cond.code ({ cls := "java/lang/String", name := "<init>", desc := "([C)V" } : Jvm.MethodName) jdk_42_method_3_code (2 : Nat) (Option.none : Option Jvm.ClassFile.FieldType), Jvm.Cond.code ({ cls := "java/lang/String", name := "<init>", desc := "([CIILjava/lang/Void;)V" } : Jvm.MethodName) jdk_42_method_149_code (6 : Nat) (Option.none : Option Jvm.ClassFile.FieldType), Jvm.Cond.code ({ cls := "java/lang/Object", name := "<init>", desc := "()V" } : Jvm.MethodName) object_method_1_code (1 : Nat) (Option.none : Option Jvm.ClassFile.FieldType), Jvm.Cond.code ({ cls := "java/lang/StringUTF16", name := "compress", desc := "([CII)[B" } : Jvm.MethodName) jdk_52_method_16_code (6 : Nat) (Option.some (Jvm.ClassFile.FieldType.array Jvm.ClassFile.FieldType.byte)), Jvm.Cond.code ({ cls := "java/lang/StringUTF16", name := "compress", desc := "([CI[BII)I" } : Jvm.MethodName) jdk_52_method_21_code (7 : Nat) (Option.some Jvm.ClassFile.FieldType.int), Jvm.Cond.code ({ cls := "java/lang/StringUTF16", name := "coderFromArrayLen", desc := "([BI)B" } : Jvm.MethodName) jdk_52_method_15_code (2 : Nat) (Option.some Jvm.ClassFile.FieldType.byte), Jvm.Cond.code ({ cls := "com/example/tidelock/tidelock/server/StructuredFields", name := "string", desc := "(Ljava/lang/String;)Ljava/lang/String;" } : Jvm.MethodName) prog_20_method_2_code (5 : Nat) (Option.some (Jvm.ClassFile.FieldType.object "java/lang/String")), Jvm.Cond.code ({ cls := "java/lang/String", name := "length", desc := "()I" } : Jvm.MethodName) jdk_42_method_54_code (1 : Nat) (Option.some Jvm.ClassFile.FieldType.int), Jvm.Cond.code ({ cls := "java/lang/String", name := "coder", desc := "()B" } : Jvm.MethodName) jdk_42_method_152_code (1 : Nat) (Option.some Jvm.ClassFile.FieldType.byte), Jvm.Cond.code ({ cls := "java/lang/String", name := "charAt", desc := "(I)C" } : Jvm.MethodName) jdk_42_method_56_code (2 : Nat) (Option.some Jvm.ClassFile.FieldType.char), Jvm.Cond.code ({ cls := "java/lang/String", name := "isLatin1", desc := "()Z" } : Jvm.MethodName) jdk_42_method_154_code (1 : Nat) (Option.some Jvm.ClassFile.FieldType.boolean), Jvm.Cond.code ({ cls := "java/lang/StringLatin1", name := "charAt", desc := "([BI)C" } : Jvm.MethodName) jdk_43_method_2_code (2 : Nat) (Option.some Jvm.ClassFile.FieldType.char), Jvm.Cond.code ({ cls := "java/lang/String", name := "checkIndex", desc := "(II)V" } : Jvm.MethodName) jdk_42_method_155_code (2 : Nat) (Option.none : Option Jvm.ClassFile.FieldType), Jvm.Cond.code ({ cls := "jdk/internal/util/Preconditions", name := "checkIndex", desc := "(IILjava/util/function/BiFunction;)I" } : Jvm.MethodName) jdk_41_method_11_code (3 : Nat) (Option.some Jvm.ClassFile.FieldType.int), Jvm.Cond.code ({ cls := "java/lang/StringBuilder", name := "<init>", desc := "()V" } : Jvm.MethodName) jdk_67_method_1_code (1 : Nat) (Option.none : Option Jvm.ClassFile.FieldType), Jvm.Cond.code ({ cls := "java/lang/AbstractStringBuilder", name := "<init>", desc := "(I)V" } : Jvm.MethodName) jdk_68_method_2_code (2 : Nat) (Option.none : Option Jvm.ClassFile.FieldType), Jvm.Cond.code ({ cls := "java/lang/StringBuilder", name := "toString", desc := "()Ljava/lang/String;" } : Jvm.MethodName) jdk_67_method_42_code (1 : Nat) (Option.some (Jvm.ClassFile.FieldType.object "java/lang/String")), Jvm.Cond.code ({ cls := "java/lang/String", name := "<init>", desc := "(Ljava/lang/StringBuilder;)V" } : Jvm.MethodName) jdk_42_method_53_code (2 : Nat) (Option.none : Option Jvm.ClassFile.FieldType), Jvm.Cond.code ({ cls := "java/lang/String", name := "<init>", desc := "(Ljava/lang/AbstractStringBuilder;Ljava/lang/Void;)V" } : Jvm.MethodName) jdk_42_method_150_code (5 : Nat) (Option.none : Option Jvm.ClassFile.FieldType), Jvm.Cond.code ({ cls := "java/lang/AbstractStringBuilder", name := "getValue", desc := "()[B" } : Jvm.MethodName) jdk_68_method_64_code (1 : Nat) (Option.some (Jvm.ClassFile.FieldType.array Jvm.ClassFile.FieldType.byte)), Jvm.Cond.code ({ cls := "java/lang/StringBuilder", name := "length", desc := "()I" } : Jvm.MethodName) jdk_67_method_93_code (1 : Nat) (Option.some Jvm.ClassFile.FieldType.int), Jvm.Cond.code ({ cls := "java/lang/AbstractStringBuilder", name := "length", desc := "()I" } : Jvm.MethodName) jdk_68_method_6_code (1 : Nat) (Option.some Jvm.ClassFile.FieldType.int), Jvm.Cond.code ({ cls := "java/lang/AbstractStringBuilder", name := "isLatin1", desc := "()Z" } : Jvm.MethodName) jdk_68_method_68_code (1 : Nat) (Option.some Jvm.ClassFile.FieldType.boolean), Jvm.Cond.code ({ cls := "java/util/Arrays", name := "copyOfRange", desc := "([BII)[B" } : Jvm.MethodName) jdk_65_method_132_code (3 : Nat) (Option.some (Jvm.ClassFile.FieldType.array Jvm.ClassFile.FieldType.byte)), Jvm.Cond.code ({ cls := "java/util/Arrays", name := "copyOfRangeByte", desc := "([BII)[B" } : Jvm.MethodName) jdk_65_method_133_code (5 : Nat) (Option.some (Jvm.ClassFile.FieldType.array Jvm.ClassFile.FieldType.byte)), Jvm.Cond.code ({ cls := "java/util/Arrays", name := "checkLength", desc := "(II)V" } : Jvm.MethodName) jdk_65_method_131_code (2 : Nat) (Option.none : Option Jvm.ClassFile.FieldType), Jvm.Cond.code ({ cls := "java/lang/Math", name := "min", desc := "(II)I" } : Jvm.MethodName) jdk_29_method_69_code (2 : Nat) (Option.some Jvm.ClassFile.FieldType.int), Jvm.Cond.code ({ cls := "com/example/tidelock/tidelock/server/StructuredFieldsStringPinLaw", name := "put", desc := "([CIC)I" } : Jvm.MethodName) method_3_code (3 : Nat) (Option.some Jvm.ClassFile.FieldType.int), Jvm.Cond.code ({ cls := "java/lang/StringBuilder", name := "append", desc := "(C)Ljava/lang/StringBuilder;" } : Jvm.MethodName) jdk_67_method_14_code (2 : Nat) (Option.some (Jvm.ClassFile.FieldType.object "java/lang/StringBuilder")), Jvm.Cond.code ({ cls := "java/lang/AbstractStringBuilder", name := "append", desc := "(C)Ljava/lang/AbstractStringBuilder;" } : Jvm.MethodName) jdk_68_method_31_code (2 : Nat) (Option.some (Jvm.ClassFile.FieldType.object "java/lang/AbstractStringBuilder")), Jvm.Cond.code ({ cls := "java/lang/AbstractStringBuilder", name := "ensureCapacityInternal", desc := "(I)V" } : Jvm.MethodName) jdk_68_method_9_code (3 : Nat) (Option.none : Option Jvm.ClassFile.FieldType), Jvm.Cond.code ({ cls := "java/lang/StringLatin1", name := "canEncode", desc := "(C)Z" } : Jvm.MethodName) jdk_43_method_3_code (1 : Nat) (Option.some Jvm.ClassFile.FieldType.boolean)]
set_option maxRecDepth 65536 in
theorem codes_eq : words1.filter isCode = codes1 := rfl
theorem w_codes : ∀ c ∈ words1.filter isCode, c.before args0 about1 = true := by
  rw [codes_eq]
  intro c hc
  simp only [codes1, List.mem_cons, List.not_mem_nil, or_false] at hc
  rcases hc with rfl | rfl | rfl | rfl | rfl | rfl | rfl | rfl | rfl | rfl | rfl | rfl | rfl | rfl | rfl | rfl | rfl | rfl | rfl | rfl | rfl | rfl | rfl | rfl | rfl | rfl | rfl | rfl | rfl | rfl | rfl | rfl | rfl | rfl
  · exact w_c0
  · exact w_c1
  · exact w_c2
  · exact w_c3
  · exact w_c4
  · exact w_c5
  · exact w_c6
  · exact w_c7
  · exact w_c8
  · exact w_c9
  · exact w_c10
  · exact w_c11
  · exact w_c12
  · exact w_c13
  · exact w_c14
  · exact w_c15
  · exact w_c16
  · exact w_c17
  · exact w_c18
  · exact w_c19
  · exact w_c20
  · exact w_c21
  · exact w_c22
  · exact w_c23
  · exact w_c24
  · exact w_c25
  · exact w_c26
  · exact w_c27
  · exact w_c28
  · exact w_c29
  · exact w_c30
  · exact w_c31
  · exact w_c32
  · exact w_c33
set_option maxRecDepth 65536 in
theorem w_t1 : (words1.take 24).all (fun c => isCode c || c.before args0 about1) = true := by decide +kernel
set_option maxRecDepth 65536 in
theorem w_t2 : ((words1.drop 24).take 24).all (fun c => isCode c || c.before args0 about1) = true := by decide +kernel
set_option maxRecDepth 65536 in
theorem w_t3 : (((words1.drop 24).drop 24).take 24).all (fun c => isCode c || c.before args0 about1) = true := by decide +kernel
set_option maxRecDepth 65536 in
theorem w_t4 : ((((words1.drop 24).drop 24).drop 24).take 24).all (fun c => isCode c || c.before args0 about1) = true := by decide +kernel
set_option maxRecDepth 65536 in
theorem w_t5 : (((((words1.drop 24).drop 24).drop 24).drop 24).take 24).all (fun c => isCode c || c.before args0 about1) = true := by decide +kernel
set_option maxRecDepth 65536 in
theorem w_t6 : ((((((words1.drop 24).drop 24).drop 24).drop 24).drop 24).take 24).all (fun c => isCode c || c.before args0 about1) = true := by decide +kernel
set_option maxRecDepth 65536 in
theorem w_t7 : ((((((words1.drop 24).drop 24).drop 24).drop 24).drop 24).drop 24).all (fun c => isCode c || c.before args0 about1) = true := by decide +kernel
theorem w_tables : (allAtoms (Jvm.Cond.code x code maxLocals ret :: tables_1)).before args0 about1 = true := by
  rw [allAtoms_all]
  show words1.all (fun c => c.before args0 about1) = true
  refine all_split ?_ w_codes
  rw [← List.take_append_drop 24 words1, List.all_append, w_t1, ← List.take_append_drop 24 (words1.drop 24), List.all_append, w_t2, ← List.take_append_drop 24 ((words1.drop 24).drop 24), List.all_append, w_t3, ← List.take_append_drop 24 (((words1.drop 24).drop 24).drop 24), List.all_append, w_t4, ← List.take_append_drop 24 ((((words1.drop 24).drop 24).drop 24).drop 24), List.all_append, w_t5, ← List.take_append_drop 24 (((((words1.drop 24).drop 24).drop 24).drop 24).drop 24), List.all_append, w_t6, w_t7]
  rfl
set_option maxRecDepth 65536 in
theorem w_rest : rest_1_c.before args0 about1 = true := by decide +kernel
set_option maxRecDepth 65536 in
theorem w_case : (Jvm.Cond.and given_1 narrow_1).before args0 about1 = true := by decide +kernel
theorem w_applies : (headSpec (Jvm.Cond.code x code maxLocals ret :: tables_1) room_1).applies x e0.platform about1 = true :=
  (Spec.applies_iff w_frames).mpr ⟨w_running, w_runnable, w_alone, w_named, w_hears, w_ripe, w_room, w_tables⟩
theorem atStart : AtStart classFile x code maxLocals ret World_1 tables_1 room_1 Calls_1 rest_1 Pre_1 launch0 p0 e0 about1 theMethod args0 below0 :=
  ⟨lists_1, trivial, launch0.admits_env _ _ _, launch0.least_env, fairChoices_fair.cas, fairChoices_fair.clock, w_frames, w_args, w_heap, w_applies, trivial, w_rest, w_case⟩
end start1
theorem witness_1 : WitnessClaimed_1 := ⟨start1.p0, start1.e0, start1.about1, start1.theMethod, start1.args0, start1.below0, start1.atStart⟩
end Jvm.Pilot.@@N@@
