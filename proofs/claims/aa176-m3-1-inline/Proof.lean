import JvmDerived
import JvmDerived.Pilot.@@N@@Statement
import JvmDerived.Pilot.@@N@@Code
set_option linter.unusedVariables false
set_option linter.unusedSimpArgs false
/- laws to paste: Road.backV, Road.eqW (cut by pick.py; bodies as the Statement names them) -/
namespace Jvm.Pilot.@@N@@
namespace StrChars
open Jvm Sem ClassFile Op Lib Jvm.Stand Jvm.Free.XT Jvm.Free.ALB Jvm.Free.JM Jvm.Free
open Jvm.Lib.Cold (StaticIs)
def Ch (a : Addr) (A : Cell) (U : State) : Prop := Arr .char a A U ∧ Typed .char A
theorem Ch.mv {a : Addr} {A : Cell} {U U' : State} (h : Ch a A U) (hal : U.vm.Alike U'.vm) (hh : U'.heap = U.heap) : Ch a A U' := ⟨h.1.mv hal hh, h.2⟩
theorem Ch.keep {a : Addr} {A : Cell} {U U' : State} (h : Ch a A U) (hal : U.vm.Alike U'.vm) (hk : U'.heap[a]? = some A) : Ch a A U' := ⟨h.1.keep hal hk, h.2⟩
def cv (A : Cell) (i : Nat) : Int32 := match A.slots[i]? with | some (.int x) => x | _ => 0
theorem Ch.get {a : Addr} {A : Cell} {U : State} (h : Ch a A U) {i : Nat} (hi : i < A.slots.size) : A.slots[i]? = some (.int (cv A i)) := by
  have e := Array.getElem?_eq_getElem hi
  have f := h.2 i _ e
  unfold cv; rw [e]
  generalize A.slots[i] = v at f
  cases v <;> simp [fits] at f ⊢
def lo8 (x : Int32) : Int32 := x.toInt8.toInt32
theorem fits_lo8 (y : Int32) : fits .byte (.int (lo8 y)) = true := by
  have h1 := y.toInt8.le_toInt
  have h2 := y.toInt8.toInt_lt
  simp only [lo8, fits, Bool.and_eq_true, decide_eq_true_eq, Int32.le_iff_toInt_le, Int8.toInt_toInt32, show (-128 : Int32).toInt = -128 from by decide, show (127 : Int32).toInt = 127 from by decide]
  omega
def Laid (A A' : Cell) (lo hi : Nat) (f : Nat → Value) : Prop := A'.cls = A.cls ∧ A'.vm = A.vm ∧ A'.slots.size = A.slots.size ∧ ∀ i, A'.slots[i]? = if lo ≤ i ∧ i < hi then some (f i) else A.slots[i]?
theorem Laid.zero (A : Cell) (lo : Nat) (f : Nat → Value) : Laid A A lo (lo + 0) f := ⟨rfl, rfl, rfl, fun i => by rw [if_neg (by omega)]⟩
theorem Laid.step {A Ak : Cell} {lo k : Nat} {f : Nat → Value} {v : Value} (h : Laid A Ak lo k f) (hlo : lo ≤ k) (hk : k < Ak.slots.size) (hv : v = f k) : Laid A (Ak.setSlot k v) lo (k + 1) f := by
  refine ⟨h.1, h.2.1, by simpa [Cell.setSlot] using h.2.2.1, fun i => ?_⟩
  by_cases e : k = i
  · subst e; rw [Cell.slots_setSlot_self v hk, if_pos (by omega), hv]
  · rw [Cell.slots_setSlot_ne v e, h.2.2.2 i]
    by_cases q : lo ≤ i ∧ i < k
    · rw [if_pos q, if_pos (by omega)]
    · rw [if_neg q, if_neg (by omega)]
def U16 : String := "java/lang/StringUTF16"
namespace Cmp5
def yN : MethodName := ⟨"java/lang/StringUTF16", "compress", "([CI[BII)I"⟩
abbrev yB : ByteArray := jdk_52_method_21_code
theorem d0 : decode yB 0 = .ok (.iconst 0, 1) := by decide +kernel
theorem d1 : decode yB 1 = .ok (.istore 5, 2) := by decide +kernel
theorem d3 : decode yB 3 = .ok (.iload 5, 2) := by decide +kernel
theorem d5 : decode yB 5 = .ok (.iload 4, 2) := by decide +kernel
theorem d7 : decode yB 7 = .ok (.if_icmp (.ge) 37, 3) := by decide +kernel
theorem d10 : decode yB 10 = .ok (.aload_n 0, 1) := by decide +kernel
theorem d11 : decode yB 11 = .ok (.iload_n 1, 1) := by decide +kernel
theorem d12 : decode yB 12 = .ok (.caload, 1) := by decide +kernel
theorem d13 : decode yB 13 = .ok (.istore 6, 2) := by decide +kernel
theorem d15 : decode yB 15 = .ok (.iload 6, 2) := by decide +kernel
theorem d17 : decode yB 17 = .ok (.sipush 255, 3) := by decide +kernel
theorem d20 : decode yB 20 = .ok (.if_icmp (.le) 6, 3) := by decide +kernel
theorem d26 : decode yB 26 = .ok (.aload_n 2, 1) := by decide +kernel
theorem d27 : decode yB 27 = .ok (.iload_n 3, 1) := by decide +kernel
theorem d28 : decode yB 28 = .ok (.iload 6, 2) := by decide +kernel
theorem d30 : decode yB 30 = .ok (.i2b, 1) := by decide +kernel
theorem d31 : decode yB 31 = .ok (.bastore, 1) := by decide +kernel
theorem d32 : decode yB 32 = .ok (.iinc 1 1, 3) := by decide +kernel
theorem d35 : decode yB 35 = .ok (.iinc 3 1, 3) := by decide +kernel
theorem d38 : decode yB 38 = .ok (.iinc 5 1, 3) := by decide +kernel
theorem d41 : decode yB 41 = .ok (.goto (-38), 3) := by decide +kernel
theorem d44 : decode yB 44 = .ok (.iload 4, 2) := by decide +kernel
theorem d46 : decode yB 46 = .ok (.ireturn, 1) := by decide +kernel
def site : List Cond := []
def tab : Cond := tabOf yN yB 7 (some .int) site
def P (b : Addr) (A : Cell) (d : Addr) (B : Cell) (o q len : Nat) (args : Array Value) (s : State) : Prop := args = #[.ref b, .int (Int32.ofNat o), .ref d, .int (Int32.ofNat q), .int (Int32.ofNat len)] ∧ Ch b A s ∧ Arr .byte d B s ∧ b ≠ d ∧ o + len ≤ A.slots.size ∧ q + len ≤ B.slots.size ∧ ∀ i, i < len → ¬ 255 < cv A (o + i)
def E (b : Addr) (A : Cell) (d : Addr) (B : Cell) (o q len : Nat) (r : Option Value) (s u : State) : Prop := r = some (.int (Int32.ofNat len)) ∧ ∃ B', Put d B' s u ∧ Laid B B' q (q + len) (fun j => Value.int (lo8 (cv A (o + (j - q)))))
theorem law (l : Launch) (b : Addr) (A : Cell) (d : Addr) (B : Cell) (o q len : Nat) : Law l yN 5 5 0 0 yB 7 (some .int) site (P b A d B o q len) (E b A d B o q len) (copyLocs d q len) 0 0 := by
  refine Law.of_walk (plainFor_of_name (by decide +kernel)) (by decide +kernel) (by decide +kernel) (by decide) (fun _ _ h => by rw [h.1]; rfl) (fun _ U U' hal hh h => ⟨h.1, h.2.1.mv hal hh, h.2.2.1.mv hal hh, h.2.2.2⟩) (fun r U U' V V' h1 hal h2 h => ⟨h.1, h.2.elim fun B' q => ⟨B', q.1.mv h1 h2, q.2⟩⟩) ?_
  intro p e s m args below meth c s₁ X0 hexec hbytes hml hret hlk hnm hown hh0 W hP
  obtain ⟨rfl, hA, hB, hne, l1, l2, hp⟩ := hP
  have c1 : Steps p.tables e below (s₁.setTop (entryFrame m #[.ref b, .int (Int32.ofNat o), .ref d, .int (Int32.ofNat q), .int (Int32.ofNat len)] 7)) (s₁.setTop (mkF m 0 #[.val (.ref b), .val (.int (Int32.ofNat o)), .val (.ref d), .val (.int (Int32.ofNat q)), .val (.int (Int32.ofNat len)), .unset, .unset] [])) := entry rfl
  have hA0 := hA.1.mv X0.warmed.alike hh0
  have hB0 := hB.mv X0.warmed.alike hh0
  have a31 := hA.1.2.2.2
  have c2 : Steps p.tables e below (s₁.setTop (entryFrame m #[.ref b, .int (Int32.ofNat o), .ref d, .int (Int32.ofNat q), .int (Int32.ofNat len)] 7)) (s₁.setTop (mkF m 3 #[.val (.ref b), .val (.int (Int32.ofNat o)), .val (.ref d), .val (.int (Int32.ofNat q)), .val (.int (Int32.ofNat len)), .val (.int 0), .unset] [])) := c1.trans (by
    refine iconstV X0.here hexec rfl 0 (hb hbytes d0) (by decide) ?_
    refine XS.istore X0.here hexec rfl (hb hbytes d1) rfl rfl ?_
    exact Steps.refl _)
  have loop : ∀ (r i : Nat), i + r = len → ∀ (z : Slot), (z = .unset ∨ ∃ w, z = .val w ∧ w.category = 1) → ∀ (Tl : State) (Bk : Cell), Stand p l e { frames := 0, locals := 0, cells := 0, slots := 0 } s m #[.ref b, .int (Int32.ofNat o), .ref d, .int (Int32.ofNat q), .int (Int32.ofNat len)] below meth c Tl ([] ++ copyLocs d q i) 0 0 → Put d Bk s₁ Tl → Laid B Bk q (q + i) (fun j => Value.int (lo8 (cv A (o + (j - q))))) →
      Steps p.tables e below (s₁.setTop (entryFrame m #[.ref b, .int (Int32.ofNat o), .ref d, .int (Int32.ofNat q), .int (Int32.ofNat len)] 7)) (Tl.setTop (mkF m 3 #[.val (.ref b), .val (.int (Int32.ofNat (o + i))), .val (.ref d), .val (.int (Int32.ofNat (q + i))), .val (.int (Int32.ofNat len)), .val (.int (Int32.ofNat i)), z] [])) → ∃ (T' : State) (B' : Cell) (z' : Slot), Stand p l e { frames := 0, locals := 0, cells := 0, slots := 0 } s m #[.ref b, .int (Int32.ofNat o), .ref d, .int (Int32.ofNat q), .int (Int32.ofNat len)] below meth c T' ([] ++ copyLocs d q len) 0 0 ∧ Put d B' s₁ T' ∧ Laid B B' q (q + len) (fun j => Value.int (lo8 (cv A (o + (j - q))))) ∧
      Steps p.tables e below (s₁.setTop (entryFrame m #[.ref b, .int (Int32.ofNat o), .ref d, .int (Int32.ofNat q), .int (Int32.ofNat len)] 7)) (T'.setTop (mkF m 3 #[.val (.ref b), .val (.int (Int32.ofNat (o + len))), .val (.ref d), .val (.int (Int32.ofNat (q + len))), .val (.int (Int32.ofNat len)), .val (.int (Int32.ofNat len)), z'] [])) := by
    intro r
    induction r with
    | zero =>
      intro i hi z hz Tl Bk Xl pl fl cl
      have hil : i = len := by omega
      rw [hil] at Xl fl cl
      exact ⟨Tl, Bk, z, Xl, pl, fl, cl⟩
    | succ r ih =>
      intro i hi z hz Tl Bk Xl pl fl cl
      have all := X0.warmed.alike.symm.trans Xl.warmed.alike
      have hAl := hA0.keep all (pl.other hne hA0.1)
      have hBk := hB0.like all pl.1 fl.1 fl.2.1 fl.2.2.1
      have hlt : q + i < Bk.slots.size := by rw [fl.2.2.1]; omega
      have c3 : Steps p.tables e below (s₁.setTop (entryFrame m #[.ref b, .int (Int32.ofNat o), .ref d, .int (Int32.ofNat q), .int (Int32.ofNat len)] 7)) (Tl.setTop (mkF m 12 #[.val (.ref b), .val (.int (Int32.ofNat (o + i))), .val (.ref d), .val (.int (Int32.ofNat (q + i))), .val (.int (Int32.ofNat len)), .val (.int (Int32.ofNat i)), z] [.int (Int32.ofNat (o + i)), .ref b])) := cl.trans (by
        refine XS.iload Xl.here hexec rfl (hb hbytes d3) rfl ?_
        refine XS.iload Xl.here hexec rfl (hb hbytes d5) rfl ?_
        refine XS.icmpNo Xl.here hexec rfl (hb hbytes d7) rfl (ii_ge_f (lt32 (by omega) (by omega))) ?_
        refine XS.aloadN Xl.here hexec rfl (hb hbytes d10) rfl rfl ?_
        refine XS.iloadN Xl.here hexec rfl (hb hbytes d11) rfl ?_
        exact Steps.refl _)
      have c4 : Steps p.tables e below (s₁.setTop (entryFrame m #[.ref b, .int (Int32.ofNat o), .ref d, .int (Int32.ofNat q), .int (Int32.ofNat len)] 7)) (Tl.setTop (mkF m 13 #[.val (.ref b), .val (.int (Int32.ofNat (o + i))), .val (.ref d), .val (.int (Int32.ofNat (q + i))), .val (.int (Int32.ofNat len)), .val (.int (Int32.ofNat i)), z] [.int (cv A (o + i))])) := c3.trans (by
        refine Xl.aget hexec hAl rfl (hA.get (i := o + i) (by omega)) rfl rfl (hb hbytes d12) ?_
        exact Steps.refl _)
      have c5 : Steps p.tables e below (s₁.setTop (entryFrame m #[.ref b, .int (Int32.ofNat o), .ref d, .int (Int32.ofNat q), .int (Int32.ofNat len)] 7)) (Tl.setTop (mkF m 15 #[.val (.ref b), .val (.int (Int32.ofNat (o + i))), .val (.ref d), .val (.int (Int32.ofNat (q + i))), .val (.int (Int32.ofNat len)), .val (.int (Int32.ofNat i)), .val (.int (cv A (o + i)))] [])) := c4.trans (by
        refine XS.istoreS Xl.here hexec rfl (hb hbytes d13) rfl rfl hz ?_
        exact Steps.refl _)
      have c6 : Steps p.tables e below (s₁.setTop (entryFrame m #[.ref b, .int (Int32.ofNat o), .ref d, .int (Int32.ofNat q), .int (Int32.ofNat len)] 7)) (Tl.setTop (mkF m 31 #[.val (.ref b), .val (.int (Int32.ofNat (o + i))), .val (.ref d), .val (.int (Int32.ofNat (q + i))), .val (.int (Int32.ofNat len)), .val (.int (Int32.ofNat i)), .val (.int (cv A (o + i)))] [.int (lo8 (cv A (o + i))), .int (Int32.ofNat (q + i)), .ref d])) := c5.trans (by
        refine XS.iload Xl.here hexec rfl (hb hbytes d15) rfl ?_
        refine sipushV Xl.here hexec rfl 255 (hb hbytes d17) (by decide) ?_
        refine XS.icmpYes Xl.here hexec rfl (pc0 := 20) rfl (hb hbytes d20) rfl (ii_le_t (hp i (by omega))) (by decide) rfl ?_
        refine XS.aloadN Xl.here hexec rfl (hb hbytes d26) rfl rfl ?_
        refine XS.iloadN Xl.here hexec rfl (hb hbytes d27) rfl ?_
        refine XS.iload Xl.here hexec rfl (hb hbytes d28) rfl ?_
        refine i2b Xl.here hexec rfl (hb hbytes d30) rfl ?_
        exact Steps.refl _)
      obtain ⟨T7, X7, p7, st7⟩ := Xl.aput hexec hBk rfl hlt rfl (fits_lo8 (cv A (o + i))) (g := (mkF m 31 #[.val (.ref b), .val (.int (Int32.ofNat (o + i))), .val (.ref d), .val (.int (Int32.ofNat (q + i))), .val (.int (Int32.ofNat len)), .val (.int (Int32.ofNat i)), .val (.int (cv A (o + i)))] [.int (lo8 (cv A (o + i))), .int (Int32.ofNat (q + i)), .ref d])) rfl (rest := []) rfl (hb hbytes d31)
      have c8 : Steps p.tables e below (s₁.setTop (entryFrame m #[.ref b, .int (Int32.ofNat o), .ref d, .int (Int32.ofNat q), .int (Int32.ofNat len)] 7)) (T7.setTop (mkF m 32 #[.val (.ref b), .val (.int (Int32.ofNat (o + i))), .val (.ref d), .val (.int (Int32.ofNat (q + i))), .val (.int (Int32.ofNat len)), .val (.int (Int32.ofNat i)), .val (.int (cv A (o + i)))] [])) := c6.trans (st7 _ (Steps.refl _))
      have c9 : Steps p.tables e below (s₁.setTop (entryFrame m #[.ref b, .int (Int32.ofNat o), .ref d, .int (Int32.ofNat q), .int (Int32.ofNat len)] 7)) (T7.setTop (mkF m 3 #[.val (.ref b), .val (.int (Int32.ofNat (o + i) + 1)), .val (.ref d), .val (.int (Int32.ofNat (q + i) + 1)), .val (.int (Int32.ofNat len)), .val (.int (Int32.ofNat i + 1)), .val (.int (cv A (o + i)))] [])) := c8.trans (by
        refine iincV X7.here hexec rfl 1 (hb hbytes d32) (by decide) rfl rfl ?_
        refine iincV X7.here hexec rfl 1 (hb hbytes d35) (by decide) rfl rfl ?_
        refine iincV X7.here hexec rfl 1 (hb hbytes d38) (by decide) rfl rfl ?_
        refine XS.goto X7.here hexec rfl (pc0 := 41) rfl (hb hbytes d41) (by decide) rfl ?_
        exact Steps.refl _)
      have c10 : Steps p.tables e below (s₁.setTop (entryFrame m #[.ref b, .int (Int32.ofNat o), .ref d, .int (Int32.ofNat q), .int (Int32.ofNat len)] 7)) (T7.setTop (mkF m 3 #[.val (.ref b), .val (.int (Int32.ofNat (o + (i + 1)))), .val (.ref d), .val (.int (Int32.ofNat (q + (i + 1)))), .val (.int (Int32.ofNat len)), .val (.int (Int32.ofNat (i + 1))), .val (.int (cv A (o + i)))] [])) := by
        have := c9
        rw [succ32, succ32, succ32] at this
        exact this
      exact ih (i + 1) (by omega) _ (Or.inr ⟨_, rfl, rfl⟩) T7 _ (by rw [copyLocs_step, ← List.append_assoc]; exact X7) (pl.trans p7) (fl.step (by omega) hlt (by simp)) c10
  obtain ⟨T9, B9, z9, X9, p9, f9, g9⟩ := loop len 0 (by omega) .unset (Or.inl rfl) s₁ B (by simpa [copyLocs] using X0) ⟨hB0.1, fun _ _ => rfl, rfl⟩ (Laid.zero _ _ _) c2
  have c11 : Steps p.tables e below (s₁.setTop (entryFrame m #[.ref b, .int (Int32.ofNat o), .ref d, .int (Int32.ofNat q), .int (Int32.ofNat len)] 7)) (T9.setTop (mkF m 46 #[.val (.ref b), .val (.int (Int32.ofNat (o + len))), .val (.ref d), .val (.int (Int32.ofNat (q + len))), .val (.int (Int32.ofNat len)), .val (.int (Int32.ofNat len)), z9] [.int (Int32.ofNat len)])) := g9.trans (by
    refine XS.iload X9.here hexec rfl (hb hbytes d3) rfl ?_
    refine XS.iload X9.here hexec rfl (hb hbytes d5) rfl ?_
    refine XS.icmpYes X9.here hexec rfl (pc0 := 7) rfl (hb hbytes d7) rfl (ii_ge_t (nlt32 (by omega) (Nat.le_refl _))) (by decide) rfl ?_
    refine XS.iload X9.here hexec rfl (hb hbytes d44) rfl ?_
    exact Steps.refl _)
  exact ⟨T9, some (.int (Int32.ofNat len)), _, _, _, X9, by simp, rfl, rfl, (fun h => by cases h), ⟨rfl, B9, p9.from hh0, f9⟩, fun fs hl => c11.trans (X9.ireturnOut hexec hret rfl (Or.inl rfl) (hb hbytes d46) hl)⟩
end Cmp5
namespace Cmp3
def yN : MethodName := ⟨"java/lang/StringUTF16", "compress", "([CII)[B"⟩
abbrev yB : ByteArray := jdk_52_method_16_code
theorem d0 : decode yB 0 = .ok (.iload_n 2, 1) := by decide +kernel
theorem d1 : decode yB 1 = .ok (.newarray .byte, 2) := by decide +kernel
theorem d3 : decode yB 3 = .ok (.astore_n 3, 1) := by decide +kernel
theorem d4 : decode yB 4 = .ok (.aload_n 0, 1) := by decide +kernel
theorem d5 : decode yB 5 = .ok (.iload_n 1, 1) := by decide +kernel
theorem d6 : decode yB 6 = .ok (.aload_n 3, 1) := by decide +kernel
theorem d7 : decode yB 7 = .ok (.iconst 0, 1) := by decide +kernel
theorem d8 : decode yB 8 = .ok (.iload_n 2, 1) := by decide +kernel
theorem d9 : decode yB 9 = .ok (.invokestatic 115, 3) := by decide +kernel
theorem d12 : decode yB 12 = .ok (.istore 4, 2) := by decide +kernel
theorem d14 : decode yB 14 = .ok (.iload 4, 2) := by decide +kernel
theorem d16 : decode yB 16 = .ok (.iload_n 2, 1) := by decide +kernel
theorem d17 : decode yB 17 = .ok (.if_icmp (.eq) 40, 3) := by decide +kernel
theorem d57 : decode yB 57 = .ok (.aload_n 3, 1) := by decide +kernel
theorem d58 : decode yB 58 = .ok (.areturn, 1) := by decide +kernel
def site : List Cond := [.arrayClass .byte, Cmp5.tab] ++ staticW U16 115 Cmp5.yN
def tab : Cond := tabOf yN yB 6 (some (.array .byte)) site
def P (b : Addr) (A : Cell) (o len : Nat) (args : Array Value) (s : State) : Prop := args = #[.ref b, .int (Int32.ofNat o), .int (Int32.ofNat len)] ∧ Ch b A s ∧ o + len ≤ A.slots.size ∧ len ≤ 536870912 ∧ ∀ i, i < len → ¬ 255 < cv A (o + i)
def E (b : Addr) (A : Cell) (o len : Nat) (r : Option Value) (s u : State) : Prop := NewArr .byte "[B" len (fun j => .int (lo8 (cv A (o + j)))) r s u ∧ u.heap.size = s.heap.size + 1
theorem law (l : Launch) (b : Addr) (A : Cell) (o len : Nat) : Law l yN 3 3 1 18 yB 6 (some (.array .byte)) site (P b A o len) (E b A o len) [] 1 len := by
  refine Law.of_walk (plainFor_of_name (by decide +kernel)) (by decide +kernel) (by decide +kernel) (by decide) (fun _ _ h => by rw [h.1]; rfl) (fun _ U U' hal hh h => ⟨h.1, h.2.1.mv hal hh, h.2.2⟩) (fun r U U' V V' h1 hal h2 h => ⟨NewArr.mv r U U' V V' h1 hal h2 h.1, by rw [h1, h2]; exact h.2⟩) ?_
  intro p e s m args below meth c s₁ X0 hexec hbytes hml hret hlk hnm hown hh0 W hP
  obtain ⟨rfl, hA, l1, l2, hp⟩ := hP
  have a31 := hA.1.2.2.2
  have c1 : Steps p.tables e below (s₁.setTop (entryFrame m #[.ref b, .int (Int32.ofNat o), .int (Int32.ofNat len)] 6)) (s₁.setTop (mkF m 0 #[.val (.ref b), .val (.int (Int32.ofNat o)), .val (.int (Int32.ofNat len)), .unset, .unset, .unset] [])) := entry rfl
  have c2 : Steps p.tables e below (s₁.setTop (entryFrame m #[.ref b, .int (Int32.ofNat o), .int (Int32.ofNat len)] 6)) (s₁.setTop (mkF m 1 #[.val (.ref b), .val (.int (Int32.ofNat o)), .val (.int (Int32.ofNat len)), .unset, .unset, .unset] [.int (Int32.ofNat len)])) := c1.trans (by
    refine XS.iloadN X0.here hexec rfl (hb hbytes d0) rfl ?_
    exact Steps.refl _)
  obtain ⟨T3, B3, X3, ba3, bs3, bv3, bh3, bf3, st3⟩ := X0.anew hexec (atype := .byte) (wk W (.arrayClass .byte)) rfl (by show len * 1 ≤ _; omega) (by omega) (g := (mkF m 1 #[.val (.ref b), .val (.int (Int32.ofNat o)), .val (.int (Int32.ofNat len)), .unset, .unset, .unset] [.int (Int32.ofNat len)])) rfl (hb hbytes d1) (rest := []) rfl (Nat.le_refl _) (by show 0 + len ≤ len; omega)
  rw [hh0] at ba3 st3
  have kp3 : XT.Kept s T3 := (XT.Kept.of_eq hh0).push bh3
  have hA3 := hA.keep X3.warmed.alike (kp3 _ _ hA.1.1)
  have hne : b ≠ s.heap.size := hA.1.ne
  have c4 : Steps p.tables e below (s₁.setTop (entryFrame m #[.ref b, .int (Int32.ofNat o), .int (Int32.ofNat len)] 6)) (T3.setTop (mkF m 3 #[.val (.ref b), .val (.int (Int32.ofNat o)), .val (.int (Int32.ofNat len)), .unset, .unset, .unset] [.ref s.heap.size])) := c2.trans (st3 _ (Steps.refl _))
  have c5 : Steps p.tables e below (s₁.setTop (entryFrame m #[.ref b, .int (Int32.ofNat o), .int (Int32.ofNat len)] 6)) (T3.setTop (mkF m 9 #[.val (.ref b), .val (.int (Int32.ofNat o)), .val (.int (Int32.ofNat len)), .val (.ref s.heap.size), .unset, .unset] [.int (Int32.ofNat len), .int 0, .ref s.heap.size, .int (Int32.ofNat o), .ref b])) := c4.trans (by
    refine XS.astoreN X3.here hexec rfl (hb hbytes d3) rfl rfl rfl ?_
    refine XS.aloadN X3.here hexec rfl (hb hbytes d4) rfl rfl ?_
    refine XS.iloadN X3.here hexec rfl (hb hbytes d5) rfl ?_
    refine XS.aloadN X3.here hexec rfl (hb hbytes d6) rfl rfl ?_
    refine iconstV X3.here hexec rfl 0 (hb hbytes d7) (by decide) ?_
    refine XS.iloadN X3.here hexec rfl (hb hbytes d8) rfl ?_
    exact Steps.refl _)
  obtain ⟨v6, T6, X6, E6, g6⟩ := X3.callS hexec (Cmp5.law l b A s.heap.size B3 o 0 len) hown (wks W (staticW U16 115 Cmp5.yN)) (wk W Cmp5.tab) (W := 0) (Nat.le_of_ble_eq_true rfl) (Nat.le_of_ble_eq_true rfl) (Nat.le_refl _) (by show 0 + len + 0 ≤ len; omega) (g := (mkF m 9 #[.val (.ref b), .val (.int (Int32.ofNat o)), .val (.int (Int32.ofNat len)), .val (.ref s.heap.size), .unset, .unset] [.int (Int32.ofNat len), .int (Int32.ofNat 0), .ref s.heap.size, .int (Int32.ofNat o), .ref b])) rfl (by rw [hml]; rfl) c5 (argsL := [.ref b, .int (Int32.ofNat o), .ref s.heap.size, .int (Int32.ofNat 0), .int (Int32.ofNat len)]) (rest := []) rfl rfl (by show 2 * 0 + 0 ≤ _; decide) (hb hbytes d9) (⟨rfl, hA3, ba3, hne, l1, by rw [bs3]; simp, hp⟩)
  obtain ⟨rfl, B6, p6, f6⟩ := E6
  have c7 : Steps p.tables e below (s₁.setTop (entryFrame m #[.ref b, .int (Int32.ofNat o), .int (Int32.ofNat len)] 6)) (T6.setTop (mkF m 12 #[.val (.ref b), .val (.int (Int32.ofNat o)), .val (.int (Int32.ofNat len)), .val (.ref s.heap.size), .unset, .unset] [.int (Int32.ofNat len)])) := g6
  have c8 : Steps p.tables e below (s₁.setTop (entryFrame m #[.ref b, .int (Int32.ofNat o), .int (Int32.ofNat len)] 6)) (T6.setTop (mkF m 58 #[.val (.ref b), .val (.int (Int32.ofNat o)), .val (.int (Int32.ofNat len)), .val (.ref s.heap.size), .val (.int (Int32.ofNat len)), .unset] [.ref s.heap.size])) := c7.trans (by
    refine XS.istore X6.here hexec rfl (hb hbytes d12) rfl rfl ?_
    refine XS.iload X6.here hexec rfl (hb hbytes d14) rfl ?_
    refine XS.iloadN X6.here hexec rfl (hb hbytes d16) rfl ?_
    refine XS.icmpYes X6.here hexec rfl (pc0 := 17) rfl (hb hbytes d17) rfl (ii_eq_t rfl) (by decide) rfl ?_
    refine XS.aloadN X6.here hexec rfl (hb hbytes d57) rfl rfl ?_
    exact Steps.refl _)
  have X8 := X6.wide (L' := []) (cells' := 1) (slots' := len) (fun x hx hlt => by
    simp only [List.nil_append, copyLocs, List.mem_map, List.mem_range] at hx
    obtain ⟨i, -, rfl⟩ := hx
    exact absurd hlt (Nat.lt_irrefl _)) (Nat.le_refl _) (by omega)
  exact ⟨T6, some (.ref s.heap.size), _, _, _, X8, rfl, rfl, rfl, (fun h => by cases h), ⟨⟨rfl, B6, ba3.like (X3.warmed.alike.symm.trans X6.warmed.alike) p6.1 f6.1 f6.2.1 f6.2.2.1, f6.2.1.trans bv3, by rw [X6.warmed.alike.findClass, f6.1]; exact bf3, by rw [f6.2.2.1, bs3]; simp, fun j hj => by rw [f6.2.2.2 j, if_pos (by omega)]; rfl, kp3.put p6 (Nat.le_refl _)⟩, by rw [p6.2.2, bh3, hh0]; simp⟩, fun fs hl => c8.trans (X8.areturnOut hexec rfl hret rfl (hb hbytes d58) hl)⟩
end Cmp3
namespace CodL
def yN : MethodName := ⟨"java/lang/StringUTF16", "coderFromArrayLen", "([BI)B"⟩
abbrev yB : ByteArray := jdk_52_method_15_code
theorem d0 : decode yB 0 = .ok (.iload_n 1, 1) := by decide +kernel
theorem d1 : decode yB 1 = .ok (.aload_n 0, 1) := by decide +kernel
theorem d2 : decode yB 2 = .ok (.arraylength, 1) := by decide +kernel
theorem d3 : decode yB 3 = .ok (.isub, 1) := by decide +kernel
theorem d4 : decode yB 4 = .ok (.bipush 31, 2) := by decide +kernel
theorem d6 : decode yB 6 = .ok (.iushr, 1) := by decide +kernel
theorem d7 : decode yB 7 = .ok (.i2b, 1) := by decide +kernel
theorem d8 : decode yB 8 = .ok (.ireturn, 1) := by decide +kernel
def site : List Cond := []
def tab : Cond := tabOf yN yB 2 (some .byte) site
def P (d : Addr) (B : Cell) (args : Array Value) (s : State) : Prop := args = #[.ref d, .int (Int32.ofNat B.slots.size)] ∧ Arr .byte d B s
def E (r : Option Value) (s u : State) : Prop := XT.PureE (some (.int 0)) r s u
theorem law (l : Launch) (d : Addr) (B : Cell) : Law l yN 2 2 0 0 yB 2 (some .byte) site (P d B) E [] 0 0 := by
  refine Law.of_walk (plainFor_of_name (by decide +kernel)) (by decide +kernel) (by decide +kernel) (by decide) (fun _ _ h => by rw [h.1]; rfl) (fun _ U U' hal hh h => ⟨h.1, h.2.mv hal hh⟩) (fun r U U' V V' h1 hal h2 h => XT.PureE.mv r U U' V V' h1 hal h2 h) ?_
  intro p e s m args below meth c s₁ X0 hexec hbytes hml hret hlk hnm hown hh0 W hP
  obtain ⟨rfl, hB⟩ := hP
  have hB0 := hB.mv X0.warmed.alike hh0
  have c1 : Steps p.tables e below (s₁.setTop (entryFrame m #[.ref d, .int (Int32.ofNat B.slots.size)] 2)) (s₁.setTop (mkF m 0 #[.val (.ref d), .val (.int (Int32.ofNat B.slots.size))] [])) := entry rfl
  have c2 : Steps p.tables e below (s₁.setTop (entryFrame m #[.ref d, .int (Int32.ofNat B.slots.size)] 2)) (s₁.setTop (mkF m 2 #[.val (.ref d), .val (.int (Int32.ofNat B.slots.size))] [.ref d, .int (Int32.ofNat B.slots.size)])) := c1.trans (by
    refine XS.iloadN X0.here hexec rfl (hb hbytes d0) rfl ?_
    refine XS.aloadN X0.here hexec rfl (hb hbytes d1) rfl rfl ?_
    exact Steps.refl _)
  have c3 : Steps p.tables e below (s₁.setTop (entryFrame m #[.ref d, .int (Int32.ofNat B.slots.size)] 2)) (s₁.setTop (mkF m 8 #[.val (.ref d), .val (.int (Int32.ofNat B.slots.size))] [.int (lo8 (ushr (Int32.ofNat B.slots.size - Int32.ofNat B.slots.size) 31))])) := c2.trans (by
    refine X0.alen hexec hB0 rfl rfl (hb hbytes d2) ?_
    refine XS.isub X0.here hexec rfl (hb hbytes d3) rfl ?_
    refine bipushV X0.here hexec rfl 31 (hb hbytes d4) (by decide) ?_
    refine iushr X0.here hexec rfl (hb hbytes d6) rfl ?_
    refine i2b X0.here hexec rfl (hb hbytes d7) rfl ?_
    exact Steps.refl _)
  have e0 : lo8 (ushr (Int32.ofNat B.slots.size - Int32.ofNat B.slots.size) 31) = 0 := by rw [Int32.sub_self]; decide
  rw [e0] at c3
  exact ⟨s₁, some (.int 0), _, _, _, X0, rfl, rfl, rfl, (fun h => by cases h), ⟨rfl, hh0⟩, fun fs hl => c3.trans (X0.ireturnOut hexec hret rfl (Or.inr (Or.inr (Or.inl rfl))) (hb hbytes d8) hl)⟩
end CodL
def Got (a : Addr) (D : Cell) (fV fC : Field) (A : Cell) (o len : Nat) (r : Option Value) (s u : State) : Prop := r = none ∧ ∃ D' V : Cell, Blank "java/lang/String" a D' u ∧ Same D D' [fV.slot, fC.slot] ∧ D'.slots[fV.slot]? = some (.ref s.heap.size) ∧ D'.slots[fC.slot]? = some (.int 0) ∧ Arr .byte s.heap.size V u ∧ V.vm = .none ∧ u.vm.findClass "[B" = some V.cls ∧ V.slots.size = len ∧ (∀ j, j < len → V.slots[j]? = some (.int (lo8 (cv A (o + j))))) ∧ (∀ (y : Addr) (c : Cell), y ≠ a → s.heap[y]? = some c → u.heap[y]? = some c) ∧ u.heap.size = s.heap.size + 1
theorem Got.mv {a : Addr} {D A : Cell} {fV fC : Field} {o len : Nat} : ∀ r (U U' V V' : State), U'.heap = U.heap → V.vm.Alike V'.vm → V'.heap = V.heap → Got a D fV fC A o len r U V → Got a D fV fC A o len r U' V' :=
  fun r U U' V V' h1 hal h2 ⟨e0, D', X, a1, a2, a3, a4, a5, a6, a7, a8, a9, a10, a11⟩ => ⟨e0, D', X, a1.mv hal h2, a2, by rw [h1]; exact a3, a4, by rw [h1]; exact a5.mv hal h2, a6, by rw [hal.findClass]; exact a7, a8, a9, by rw [h1, h2]; exact a10, by rw [h1, h2]; exact a11⟩
namespace New4
def yN : MethodName := ⟨"java/lang/String", "<init>", "([CIILjava/lang/Void;)V"⟩
abbrev yB : ByteArray := jdk_42_method_149_code
theorem d0 : decode yB 0 = .ok (.aload_n 0, 1) := by decide +kernel
theorem d1 : decode yB 1 = .ok (.invokespecial 1, 3) := by decide +kernel
theorem d4 : decode yB 4 = .ok (.iload_n 3, 1) := by decide +kernel
theorem d5 : decode yB 5 = .ok (.ifCond (.ne) 22, 3) := by decide +kernel
theorem d27 : decode yB 27 = .ok (.getstatic 38, 3) := by decide +kernel
theorem d30 : decode yB 30 = .ok (.ifCond (.eq) 28, 3) := by decide +kernel
theorem d33 : decode yB 33 = .ok (.aload_n 1, 1) := by decide +kernel
theorem d34 : decode yB 34 = .ok (.iload_n 2, 1) := by decide +kernel
theorem d35 : decode yB 35 = .ok (.iload_n 3, 1) := by decide +kernel
theorem d36 : decode yB 36 = .ok (.invokestatic 177, 3) := by decide +kernel
theorem d39 : decode yB 39 = .ok (.astore 5, 2) := by decide +kernel
theorem d41 : decode yB 41 = .ok (.aload_n 0, 1) := by decide +kernel
theorem d42 : decode yB 42 = .ok (.aload 5, 2) := by decide +kernel
theorem d44 : decode yB 44 = .ok (.iload_n 3, 1) := by decide +kernel
theorem d45 : decode yB 45 = .ok (.invokestatic 47, 3) := by decide +kernel
theorem d48 : decode yB 48 = .ok (.putfield 15, 3) := by decide +kernel
theorem d51 : decode yB 51 = .ok (.aload_n 0, 1) := by decide +kernel
theorem d52 : decode yB 52 = .ok (.aload 5, 2) := by decide +kernel
theorem d54 : decode yB 54 = .ok (.putfield 9, 3) := by decide +kernel
theorem d57 : decode yB 57 = .ok (.return_, 1) := by decide +kernel
def site : List Cond := [.fieldLink "java/lang/String" 38 "java/lang/String" "COMPACT_STRINGS" "Z", Cmp3.tab, CodL.tab, .laysFinal "java/lang/String" "java/lang/String" "value" "[B", .fieldLink "java/lang/String" 9 "java/lang/String" "value" "[B", .laysFinal "java/lang/String" "java/lang/String" "coder" "B", .fieldLink "java/lang/String" 15 "java/lang/String" "coder" "B"] ++ objW "java/lang/String" 1 ++ staticW "java/lang/String" 177 Cmp3.yN ++ staticW "java/lang/String" 47 CodL.yN
def tab : Cond := tabOf yN yB 6 none site
def P (a : Addr) (D : Cell) (fV fC : Field) (b : Addr) (A : Cell) (z : Int32) (o len : Nat) (args : Array Value) (s : State) : Prop := args = #[.ref a, .ref b, .int (Int32.ofNat o), .int (Int32.ofNat len), .null] ∧ Blank "java/lang/String" a D s ∧ Found "java/lang/String" "value" "[B" fV s ∧ Found "java/lang/String" "coder" "B" fC s ∧ Ch b A s ∧ StaticIs s "java/lang/String" "COMPACT_STRINGS" "Z" (.int z) ∧ ¬ z = 0 ∧ 0 < len ∧ o + len ≤ A.slots.size ∧ len ≤ 536870912 ∧ ∀ i, i < len → ¬ 255 < cv A (o + i)
def E (a : Addr) (D : Cell) (fV fC : Field) (A : Cell) (o len : Nat) (r : Option Value) (s u : State) : Prop := Got a D fV fC A o len r s u
theorem law (l : Launch) (a : Addr) (D : Cell) (fV fC : Field) (b : Addr) (A : Cell) (z : Int32) (o len : Nat) : Law l yN 5 4 2 35 yB 6 none site (P a D fV fC b A z o len) (E a D fV fC A o len) [⟨a, fC.slot⟩, ⟨a, fV.slot⟩] 1 len := by
  refine Law.of_walk (plainFor_of_name (by decide +kernel)) (by decide +kernel) (by decide +kernel) (by decide) (fun _ _ h => by rw [h.1]; rfl) (fun _ U U' hal hh h => ⟨h.1, h.2.1.mv hal hh, h.2.2.1.al hal, h.2.2.2.1.al hal, h.2.2.2.2.1.mv hal hh, h.2.2.2.2.2.1.there hal hh, h.2.2.2.2.2.2⟩) (fun r U U' V V' h1 hal h2 h => Got.mv r U U' V V' h1 hal h2 h) ?_
  intro p e s m args below meth c s₁ X0 hexec hbytes hml hret hlk hnm hown hh0 W hP
  obtain ⟨rfl, hB, f1, f2, hA, s1, hz, l0, l1, l2, hp⟩ := hP
  have a31 := hA.1.2.2.2
  have c1 : Steps p.tables e below (s₁.setTop (entryFrame m #[.ref a, .ref b, .int (Int32.ofNat o), .int (Int32.ofNat len), .null] 6)) (s₁.setTop (mkF m 0 #[.val (.ref a), .val (.ref b), .val (.int (Int32.ofNat o)), .val (.int (Int32.ofNat len)), .val .null, .unset] [])) := entry rfl
  have c2 : Steps p.tables e below (s₁.setTop (entryFrame m #[.ref a, .ref b, .int (Int32.ofNat o), .int (Int32.ofNat len), .null] 6)) (s₁.setTop (mkF m 1 #[.val (.ref a), .val (.ref b), .val (.int (Int32.ofNat o)), .val (.int (Int32.ofNat len)), .val .null, .unset] [.ref a])) := c1.trans (by
    refine XS.aloadN X0.here hexec rfl (hb hbytes d0) rfl rfl ?_
    exact Steps.refl _)
  obtain ⟨T3, X3, q3, st3⟩ := X0.oinit hexec hown (wks W (objW "java/lang/String" 1)) (g := (mkF m 1 #[.val (.ref a), .val (.ref b), .val (.int (Int32.ofNat o)), .val (.int (Int32.ofNat len)), .val .null, .unset] [.ref a])) rfl (by rw [hml]; rfl) (rest := []) rfl (hb hbytes d1) (W := 0) (by show 2 * 0 + 0 ≤ _; decide) (Nat.le_of_ble_eq_true rfl) (Nat.le_of_ble_eq_true rfl)
  have hh3 := q3.trans hh0
  have c4 : Steps p.tables e below (s₁.setTop (entryFrame m #[.ref a, .ref b, .int (Int32.ofNat o), .int (Int32.ofNat len), .null] 6)) (T3.setTop (mkF m 27 #[.val (.ref a), .val (.ref b), .val (.int (Int32.ofNat o)), .val (.int (Int32.ofNat len)), .val .null, .unset] [])) := (c2.trans (st3 _ (Steps.refl _))).trans (by
    refine XS.iloadN X3.here hexec rfl (hb hbytes d4) rfl ?_
    refine XS.ifYes X3.here hexec rfl (pc0 := 5) rfl (hb hbytes d5) rfl (i0_ne_t (nz32 (by omega) l0)) (by decide) rfl ?_
    exact Steps.refl _)
  obtain ⟨T5, X5, q5, st5⟩ := X3.sget hexec hown (wk W (.fieldLink "java/lang/String" 38 "java/lang/String" "COMPACT_STRINGS" "Z")) s1 (fun _ _ h => by rw [hh3]; exact h) (g := (mkF m 27 #[.val (.ref a), .val (.ref b), .val (.int (Int32.ofNat o)), .val (.int (Int32.ofNat len)), .val .null, .unset] [])) rfl (hb hbytes d27)
  have hh5 := q5.trans hh3
  have c6 : Steps p.tables e below (s₁.setTop (entryFrame m #[.ref a, .ref b, .int (Int32.ofNat o), .int (Int32.ofNat len), .null] 6)) (T5.setTop (mkF m 30 #[.val (.ref a), .val (.ref b), .val (.int (Int32.ofNat o)), .val (.int (Int32.ofNat len)), .val .null, .unset] [.int z])) := c4.trans (st5 _ (Steps.refl _))
  have c7 : Steps p.tables e below (s₁.setTop (entryFrame m #[.ref a, .ref b, .int (Int32.ofNat o), .int (Int32.ofNat len), .null] 6)) (T5.setTop (mkF m 36 #[.val (.ref a), .val (.ref b), .val (.int (Int32.ofNat o)), .val (.int (Int32.ofNat len)), .val .null, .unset] [.int (Int32.ofNat len), .int (Int32.ofNat o), .ref b])) := c6.trans (by
    refine XS.ifNo X5.here hexec rfl (hb hbytes d30) rfl (i0_eq_f hz) ?_
    refine XS.aloadN X5.here hexec rfl (hb hbytes d33) rfl rfl ?_
    refine XS.iloadN X5.here hexec rfl (hb hbytes d34) rfl ?_
    refine XS.iloadN X5.here hexec rfl (hb hbytes d35) rfl ?_
    exact Steps.refl _)
  obtain ⟨v8, T8, X8, E8, g8⟩ := X5.callS hexec (Cmp3.law l b A o len) hown (wks W (staticW "java/lang/String" 177 Cmp3.yN)) (wk W Cmp3.tab) (W := 0) (Nat.le_of_ble_eq_true rfl) (Nat.le_of_ble_eq_true rfl) (Nat.le_refl _) (by show 0 + len ≤ len; omega) (g := (mkF m 36 #[.val (.ref a), .val (.ref b), .val (.int (Int32.ofNat o)), .val (.int (Int32.ofNat len)), .val .null, .unset] [.int (Int32.ofNat len), .int (Int32.ofNat o), .ref b])) rfl (by rw [hml]; rfl) c7 (argsL := [.ref b, .int (Int32.ofNat o), .int (Int32.ofNat len)]) (rest := []) rfl rfl (by show 2 * 0 + 0 ≤ _; decide) (hb hbytes d36) (⟨rfl, hA.mv X5.warmed.alike hh5, l1, l2, hp⟩)
  obtain ⟨e8, z8⟩ := E8
  obtain ⟨rfl, N, n1, n2, n3, n4, n5, n6⟩ := NewArr.mv _ T5 s _ _ hh5.symm (Vm.Alike.refl _) rfl e8
  rw [hh5] at z8
  have hB1 := hB.keep X8.warmed.alike (n6 _ _ hB.1)
  have hne : s.heap.size ≠ a := (Nat.ne_of_lt (Array.getElem?_eq_some_iff.mp hB.1).1).symm
  have c9 : Steps p.tables e below (s₁.setTop (entryFrame m #[.ref a, .ref b, .int (Int32.ofNat o), .int (Int32.ofNat len), .null] 6)) (T8.setTop (mkF m 39 #[.val (.ref a), .val (.ref b), .val (.int (Int32.ofNat o)), .val (.int (Int32.ofNat len)), .val .null, .unset] [.ref s.heap.size])) := g8
  have c10 : Steps p.tables e below (s₁.setTop (entryFrame m #[.ref a, .ref b, .int (Int32.ofNat o), .int (Int32.ofNat len), .null] 6)) (T8.setTop (mkF m 45 #[.val (.ref a), .val (.ref b), .val (.int (Int32.ofNat o)), .val (.int (Int32.ofNat len)), .val .null, .val (.ref s.heap.size)] [.int (Int32.ofNat N.slots.size), .ref s.heap.size, .ref a])) := by
    have hc : Steps p.tables e below (s₁.setTop (entryFrame m #[.ref a, .ref b, .int (Int32.ofNat o), .int (Int32.ofNat len), .null] 6)) (T8.setTop (mkF m 45 #[.val (.ref a), .val (.ref b), .val (.int (Int32.ofNat o)), .val (.int (Int32.ofNat len)), .val .null, .val (.ref s.heap.size)] [.int (Int32.ofNat len), .ref s.heap.size, .ref a])) := c9.trans (by
      refine XS.astore X8.here hexec rfl (hb hbytes d39) rfl rfl rfl ?_
      refine XS.aloadN X8.here hexec rfl (hb hbytes d41) rfl rfl ?_
      refine XS.aload X8.here hexec rfl (hb hbytes d42) rfl rfl ?_
      refine XS.iloadN X8.here hexec rfl (hb hbytes d44) rfl ?_
      exact Steps.refl _)
    rw [n4]; exact hc
  obtain ⟨v11, T11, X11, E11, g11⟩ := X8.callS hexec (CodL.law l s.heap.size N) hown (wks W (staticW "java/lang/String" 47 CodL.yN)) (wk W CodL.tab) (W := 1) (Nat.le_of_ble_eq_true rfl) (Nat.le_of_ble_eq_true rfl) (Nat.le_refl _) (by show 0 + len + 0 ≤ len; omega) (g := (mkF m 45 #[.val (.ref a), .val (.ref b), .val (.int (Int32.ofNat o)), .val (.int (Int32.ofNat len)), .val .null, .val (.ref s.heap.size)] [.int (Int32.ofNat N.slots.size), .ref s.heap.size, .ref a])) rfl (by rw [hml]; rfl) c10 (argsL := [.ref s.heap.size, .int (Int32.ofNat N.slots.size)]) (rest := [.ref a]) rfl rfl (by show 2 * 0 + (1 + 0) ≤ _; decide) (hb hbytes d45) (⟨rfl, n1⟩)
  obtain ⟨rfl, q11⟩ := E11
  have hB11 := hB1.mv (X8.warmed.alike.symm.trans X11.warmed.alike) q11
  have c12 : Steps p.tables e below (s₁.setTop (entryFrame m #[.ref a, .ref b, .int (Int32.ofNat o), .int (Int32.ofNat len), .null] 6)) (T11.setTop (mkF m 48 #[.val (.ref a), .val (.ref b), .val (.int (Int32.ofNat o)), .val (.int (Int32.ofNat len)), .val .null, .val (.ref s.heap.size)] [.int 0, .ref a])) := g11
  obtain ⟨T13, X13, p13, bl13, sl13, st13⟩ := X11.finit hexec hown (wk W (.fieldLink "java/lang/String" 15 "java/lang/String" "coder" "B")) (Or.inr ⟨_, (wk W (.laysFinal "java/lang/String" "java/lang/String" "coder" "B"))⟩) (Or.inl ⟨rfl, hnm⟩) f2 (Or.inl rfl) hB11 (t := .byte) (by decide +kernel) rfl (g := (mkF m 48 #[.val (.ref a), .val (.ref b), .val (.int (Int32.ofNat o)), .val (.int (Int32.ofNat len)), .val .null, .val (.ref s.heap.size)] [.int 0, .ref a])) rfl (rest := []) rfl (hb hbytes d48)
  have c14 : Steps p.tables e below (s₁.setTop (entryFrame m #[.ref a, .ref b, .int (Int32.ofNat o), .int (Int32.ofNat len), .null] 6)) (T13.setTop (mkF m 54 #[.val (.ref a), .val (.ref b), .val (.int (Int32.ofNat o)), .val (.int (Int32.ofNat len)), .val .null, .val (.ref s.heap.size)] [.ref s.heap.size, .ref a])) := (c12.trans (st13 _ (Steps.refl _))).trans (by
    refine XS.aloadN X13.here hexec rfl (hb hbytes d51) rfl rfl ?_
    refine XS.aload X13.here hexec rfl (hb hbytes d52) rfl rfl ?_
    exact Steps.refl _)
  obtain ⟨T15, X15, p15, bl15, sl15, st15⟩ := X13.finit hexec hown (wk W (.fieldLink "java/lang/String" 9 "java/lang/String" "value" "[B")) (Or.inr ⟨_, (wk W (.laysFinal "java/lang/String" "java/lang/String" "value" "[B"))⟩) (Or.inl ⟨rfl, hnm⟩) f1 (Or.inl rfl) bl13 (t := (.array .byte)) (by decide +kernel) rfl (g := (mkF m 54 #[.val (.ref a), .val (.ref b), .val (.int (Int32.ofNat o)), .val (.int (Int32.ofNat len)), .val .null, .val (.ref s.heap.size)] [.ref s.heap.size, .ref a])) rfl (rest := []) rfl (hb hbytes d54)
  have c16 : Steps p.tables e below (s₁.setTop (entryFrame m #[.ref a, .ref b, .int (Int32.ofNat o), .int (Int32.ofNat len), .null] 6)) (T15.setTop (mkF m 57 #[.val (.ref a), .val (.ref b), .val (.int (Int32.ofNat o)), .val (.int (Int32.ofNat len)), .val .null, .val (.ref s.heap.size)] [])) := c14.trans (st15 _ (Steps.refl _))
  have ap := apart (Or.inr ⟨_, (wk W (.laysFinal "java/lang/String" "java/lang/String" "value" "[B"))⟩) (Or.inr ⟨_, (wk W (.laysFinal "java/lang/String" "java/lang/String" "coder" "B"))⟩) f1 f2 (t₁ := .array .byte) (t₂ := .byte) (by decide +kernel) (by decide +kernel) (by decide)
  have al := X8.warmed.alike.symm.trans X15.warmed.alike
  have n7 : T11.heap[s.heap.size]? = some N := by rw [q11]; exact n1.1
  exact ⟨T15, none, _, _, _, X15, by simp, rfl, by omega, (fun _ => rfl), ⟨rfl, _, N, bl15, ((Same.refl D _).set _ (by simp)).set _ (by simp), sl15, (Cell.slots_setSlot_ne _ ap).trans sl13, n1.keep al (p15.other hne (p13.other hne n7)), n2, by rw [al.findClass]; exact n3, n4, n5, fun y c h1 h2 => p15.other h1 (p13.other h1 (by rw [q11]; exact n6 y c h2)), by rw [p15.2.2, p13.2.2, q11]; exact z8⟩, fun fs hl => c16.trans (X15.returnOut hexec hret (hb hbytes d57) hl)⟩
end New4
namespace New1
def yN : MethodName := ⟨"java/lang/String", "<init>", "([C)V"⟩
abbrev yB : ByteArray := jdk_42_method_3_code
theorem d0 : decode yB 0 = .ok (.aload_n 0, 1) := by decide +kernel
theorem d1 : decode yB 1 = .ok (.aload_n 1, 1) := by decide +kernel
theorem d2 : decode yB 2 = .ok (.iconst 0, 1) := by decide +kernel
theorem d3 : decode yB 3 = .ok (.aload_n 1, 1) := by decide +kernel
theorem d4 : decode yB 4 = .ok (.arraylength, 1) := by decide +kernel
theorem d5 : decode yB 5 = .ok (.aconst_null, 1) := by decide +kernel
theorem d6 : decode yB 6 = .ok (.invokespecial 27, 3) := by decide +kernel
theorem d9 : decode yB 9 = .ok (.return_, 1) := by decide +kernel
def site : List Cond := [New4.tab] ++ initW "java/lang/String" 27 New4.yN
def tab : Cond := tabOf yN yB 2 none site
def P (a : Addr) (D : Cell) (fV fC : Field) (b : Addr) (A : Cell) (z : Int32) (args : Array Value) (s : State) : Prop := args = #[.ref a, .ref b] ∧ Blank "java/lang/String" a D s ∧ Found "java/lang/String" "value" "[B" fV s ∧ Found "java/lang/String" "coder" "B" fC s ∧ Ch b A s ∧ StaticIs s "java/lang/String" "COMPACT_STRINGS" "Z" (.int z) ∧ ¬ z = 0 ∧ 0 < A.slots.size ∧ A.slots.size ≤ 536870912 ∧ ∀ i, i < A.slots.size → ¬ 255 < cv A i
def E (a : Addr) (D : Cell) (fV fC : Field) (A : Cell) (r : Option Value) (s u : State) : Prop := Got a D fV fC A 0 A.slots.size r s u
theorem law (l : Launch) (a : Addr) (D : Cell) (fV fC : Field) (b : Addr) (A : Cell) (z : Int32) : Law l yN 2 1 3 52 yB 2 none site (P a D fV fC b A z) (E a D fV fC A) [⟨a, fC.slot⟩, ⟨a, fV.slot⟩] 1 A.slots.size := by
  refine Law.of_walk (plainFor_of_name (by decide +kernel)) (by decide +kernel) (by decide +kernel) (by decide) (fun _ _ h => by rw [h.1]; rfl) (fun _ U U' hal hh h => ⟨h.1, h.2.1.mv hal hh, h.2.2.1.al hal, h.2.2.2.1.al hal, h.2.2.2.2.1.mv hal hh, h.2.2.2.2.2.1.there hal hh, h.2.2.2.2.2.2⟩) (fun r U U' V V' h1 hal h2 h => Got.mv r U U' V V' h1 hal h2 h) ?_
  intro p e s m args below meth c s₁ X0 hexec hbytes hml hret hlk hnm hown hh0 W hP
  obtain ⟨rfl, hB, f1, f2, hA, s1, hz, l0, l2, hp⟩ := hP
  have c1 : Steps p.tables e below (s₁.setTop (entryFrame m #[.ref a, .ref b] 2)) (s₁.setTop (mkF m 0 #[.val (.ref a), .val (.ref b)] [])) := entry rfl
  have c2 : Steps p.tables e below (s₁.setTop (entryFrame m #[.ref a, .ref b] 2)) (s₁.setTop (mkF m 6 #[.val (.ref a), .val (.ref b)] [.null, .int (Int32.ofNat A.slots.size), .int 0, .ref b, .ref a])) := c1.trans (by
    refine XS.aloadN X0.here hexec rfl (hb hbytes d0) rfl rfl ?_
    refine XS.aloadN X0.here hexec rfl (hb hbytes d1) rfl rfl ?_
    refine iconstV X0.here hexec rfl 0 (hb hbytes d2) (by decide) ?_
    refine XS.aloadN X0.here hexec rfl (hb hbytes d3) rfl rfl ?_
    refine X0.alen hexec (hA.1.mv X0.warmed.alike hh0) rfl rfl (hb hbytes d4) ?_
    refine XS.aconstNull X0.here hexec rfl (hb hbytes d5) ?_
    exact Steps.refl _)
  obtain ⟨v3, T3, X3, E3, g3⟩ := X0.callN hexec (New4.law l a D fV fC b A z 0 A.slots.size) rfl hown (wks W (initW "java/lang/String" 27 New4.yN)) (W New4.tab (by simp only [site, List.mem_cons, List.mem_append, true_or, or_true])) (W := 0) (Nat.le_of_ble_eq_true rfl) (Nat.le_of_ble_eq_true rfl) (Nat.le_refl _) (by show 0 + A.slots.size ≤ A.slots.size; omega) (g := (mkF m 6 #[.val (.ref a), .val (.ref b)] [.null, .int (Int32.ofNat A.slots.size), .int (Int32.ofNat 0), .ref b, .ref a])) rfl (by rw [hml]; rfl) c2 (argsL := [.ref b, .int (Int32.ofNat 0), .int (Int32.ofNat A.slots.size), .null]) (rest := []) rfl rfl (by show 2 * 0 + 0 ≤ _; decide) (hb hbytes d6) (⟨rfl, hB.mv X0.warmed.alike hh0, f1.al X0.warmed.alike, f2.al X0.warmed.alike, hA.mv X0.warmed.alike hh0, s1.there X0.warmed.alike hh0, hz, l0, by omega, l2, fun i hi => by rw [Nat.zero_add]; exact hp i hi⟩)
  have e0 := Got.mv _ s₁ s _ _ hh0.symm (Vm.Alike.refl _) rfl E3
  obtain rfl := e0.1
  have c4 : Steps p.tables e below (s₁.setTop (entryFrame m #[.ref a, .ref b] 2)) (T3.setTop (mkF m 9 #[.val (.ref a), .val (.ref b)] [])) := g3
  exact ⟨T3, none, _, _, _, X3, by simp, rfl, by omega, (fun _ => rfl), e0, fun fs hl => c4.trans (X3.returnOut hexec hret (hb hbytes d9) hl)⟩
theorem pays {l : Launch} {R : Room} {p : Program} {e : Env} {below : List Frame} {s : State} {sargs : Array Value} {len W : Nat} (a : Addr) (D : Cell) (fV fC : Field) (b : Addr) (A : Cell) (z : Int32) (htab : tab.before sargs s = true) (hfr : 4 ≤ R.frames) (hlo : W + 65 ≤ R.locals) :
    Back l R p e below s sargs yN len W (fun A₁ a₁ => A₁.cells + 1 ≤ R.cells ∧ A₁.slots + A.slots.size ≤ R.slots ∧ P a D fV fC b A z a₁ A₁.U) (fun A₁ _ v₁ B₁ => E a D fV fC A v₁ A₁.U B₁.U ∧ B₁.locs = A₁.locs ++ [⟨a, fC.slot⟩, ⟨a, fV.slot⟩] ∧ B₁.cells = A₁.cells + 1 ∧ B₁.slots = A₁.slots + A.slots.size) :=
  (law l a D fV fC b A z).pays htab hfr (by omega)
end New1
theorem lo8_mask {x : Int32} (h0 : ¬ x < 0) (h1 : ¬ 255 < x) : lo8 x &&& 255 = x := by
  have t : ∀ k : Fin 256, lo8 (Int32.ofNat k.val) &&& 255 = Int32.ofNat k.val := by decide +kernel
  rw [Int32.lt_iff_toInt_lt] at h0 h1
  have e0 : (0 : Int32).toInt = 0 := rfl
  have e1 : (255 : Int32).toInt = 255 := rfl
  obtain ⟨k, hk⟩ : ∃ k : Nat, x.toInt = k := ⟨x.toInt.toNat, by omega⟩
  have hx : x = Int32.ofNat k := Int32.toInt_inj.mp (by rw [hk, Int32.toInt_ofNat_small (by omega)])
  rw [hx]
  exact t ⟨k, by omega⟩
end StrChars
namespace StrChars.Road
open Jvm Sem ClassFile Op Lib Jvm.Stand Jvm.Free Jvm.Free.XT
open Jvm.Lib.Cold (StaticIs)
abbrev ST : String := "java/lang/String"
abbrev words : List Jvm.Cond := [.code New1.yN New1.yB 2 none, .initialized ST, .methodLink ST 27 New4.yN, .instanceMethod New4.yN,
  .code New4.yN New4.yB 6 none, .fieldLink ST 38 ST "COMPACT_STRINGS" "Z", .laysFinal ST ST "value" "[B", .fieldLink ST 9 ST "value" "[B", .laysFinal ST ST "coder" "B", .fieldLink ST 15 ST "coder" "B",
  .methodLink ST 1 Lib.objectInit, .instanceMethod Lib.objectInit, .code Lib.objectInit ⟨#[0xb1]⟩ 1 none, .methodLink ST 177 Cmp3.yN, .static Cmp3.yN, .methodLink ST 47 CodL.yN, .static CodL.yN,
  .code Cmp3.yN Cmp3.yB 6 (some (.array .byte)), .initialized U16, .arrayClass .byte, .methodLink U16 115 Cmp5.yN, .static Cmp5.yN, .code Cmp5.yN Cmp5.yB 7 (some .int), .code CodL.yN CodL.yB 2 (some .byte)]
theorem tab_of {a : Array Value} {s : State} (h : ∀ w ∈ words, w.before a s = true) : New1.tab.before a s = true := by
  have h5 : Cmp5.tab.before a s = true := unparts (wk h (.code Cmp5.yN Cmp5.yB 7 (some .int))) (wks h (.initialized Cmp5.yN.cls :: Cmp5.site))
  have hc : CodL.tab.before a s = true := unparts (wk h (.code CodL.yN CodL.yB 2 (some .byte))) (wks h (.initialized CodL.yN.cls :: CodL.site))
  have q5 : ∀ w ∈ Cmp5.tab :: words, w.before a s = true := fun w hw => (List.mem_cons.mp hw).elim (fun e => e ▸ h5) (h w)
  have h3 : Cmp3.tab.before a s = true := unparts (wk q5 (.code Cmp3.yN Cmp3.yB 6 (some (.array .byte)))) (wks q5 (.initialized Cmp3.yN.cls :: Cmp3.site))
  have q3 : ∀ w ∈ Cmp3.tab :: CodL.tab :: words, w.before a s = true := fun w hw => (List.mem_cons.mp hw).elim (fun e => e ▸ h3) fun hw => (List.mem_cons.mp hw).elim (fun e => e ▸ hc) (h w)
  have h4 : New4.tab.before a s = true := unparts (wk q3 (.code New4.yN New4.yB 6 none)) (wks q3 (.initialized New4.yN.cls :: New4.site))
  have q4 : ∀ w ∈ New4.tab :: words, w.before a s = true := fun w hw => (List.mem_cons.mp hw).elim (fun e => e ▸ h4) (h w)
  exact unparts (wk q4 (.code New1.yN New1.yB 2 none)) (wks q4 (.initialized New1.yN.cls :: New1.site))
theorem moved {Z s : State} {a0 args : Array Value} (hZ : Z.Warmed39 s.vm) (hw : ∀ d ∈ words, d.before a0 Z = true) : ∀ d ∈ words, d.before args s = true := fun d hd => by
  have q := hw d hd
  have t : ∀ d ∈ words, d = .arrayClass .byte ∨ (d.onTables && d.keepsFace) = true := by decide +kernel
  rcases t d hd with rfl | t
  · exact RoadKit.mvA hZ q
  · exact RoadKit.mv hZ q t
def Q (Z : State) (x : Addr) (A : Cell) (h : Heap) (v : Option Value) (h' : Heap) (L : List Loc) : Prop := v = none ∧ (∀ y ∈ L, y.base = x) ∧ RoadKit.Keep h h' [x] ∧ h'.size = h.size + 1 ∧ RoadKit.Exa Z h' x ST ∧ RoadKit.Fld Z h' x ST "value" "[B" (.ref h.size) ∧ RoadKit.Fld Z h' x ST "coder" "B" (.int 0) ∧
  (∃ V : Cell, RoadKit.Arr Z h' h.size V .byte ∧ V.vm = .none ∧ Z.vm.findClass "[B" = some V.cls ∧ V.slots.size = A.slots.size ∧ ∀ j, j < A.slots.size → V.slots[j]? = some (.int (lo8 (cv A j)))) ∧
  ∀ (O n d : String) (w : Value), RoadKit.Fld Z h x O n d w → RoadKit.slotOf Z O n d ≠ RoadKit.slotOf Z ST "value" "[B" → RoadKit.slotOf Z O n d ≠ RoadKit.slotOf Z ST "coder" "B" → RoadKit.Fld Z h' x O n d w
theorem back {p : Program} {l : Launch} {e : Env} {R : Room} {s : State} {args : Array Value} {below : List Frame} {len W : Nat} {Z : State} {a0 : Array Value} {h : Heap} (hZ : Z.Warmed39 s.vm) (hw : ∀ d ∈ words, d.before a0 Z = true) {kI : Nat} (wi : (Jvm.Cond.instantiable ST kI).before a0 Z = true)
    {x b : Addr} {A : Cell} {z : Int32} {v0 c0 : Value} (E : RoadKit.Exa Z h x ST) (V : RoadKit.Fld Z h x ST "value" "[B" v0) (C : RoadKit.Fld Z h x ST "coder" "B" c0) (K : RoadKit.Arr Z h b A .char) (hty : Typed .char A) (S : RoadKit.Sta Z h ST "COMPACT_STRINGS" "Z" (.int z)) (hz : ¬ z = 0)
    (l0 : 0 < A.slots.size) (l2 : A.slots.size ≤ 536870912) (hp : ∀ i, i < A.slots.size → ¬ 255 < cv A i) (hfr : 4 ≤ R.frames) (hlo : W + 65 ≤ R.locals) :
    Back l R p e below s args New1.yN len W (fun P a => a = #[.ref x, .ref b] ∧ P.U.heap = h ∧ P.cells + 1 ≤ R.cells ∧ P.slots + A.slots.size ≤ R.slots)
      (fun P _ v B => ∃ L, Q Z x A h v B.U.heap L ∧ B.locs = P.locs ++ L ∧ B.cells = P.cells + 1 ∧ B.slots = P.slots + A.slots.size) := by
  intro m meth c P g ig mk a X hg hsize hdg hW hn hp'
  obtain ⟨rfl, rfl, r1, r2⟩ := hp'
  have al : Z.vm.Alike P.U.vm := hZ.alike.trans X.warmed.alike
  obtain ⟨D, cfV, kV, iV, fV, hD, gV, stV, knV, obV, asV, slV⟩ := id V
  obtain ⟨D', cfC, kC, iC, fC, hD', gC, stC, -, -, asC, slC⟩ := id C
  cases hD.symm.trans hD'
  obtain ⟨D2, kD, e1, e2, e3, e4, e5⟩ := id E
  cases hD.symm.trans e1
  obtain ⟨c2, k2, i1, i2, i3, -⟩ := Cond.instantiable_spec wi
  cases e2.symm.trans i1
  cases e3.symm.trans i2
  obtain ⟨kU, u1, u2⟩ := al.2.2 _ _ e3
  have hB : Blank ST x D P.U := ⟨hD, ⟨knV, fun q hq => by rw [hq] at obV; cases obV⟩, by rw [al.findClass]; exact e2, kU, u1, by rw [u2]; exact i3, by rw [u2]; exact e5 i3⟩
  have F1 : Found ST "value" "[B" fV P.U := ⟨SBG.found_only al ⟨cfV, kV, iV, gV⟩, stV⟩
  have F2 : Found ST "coder" "B" fC P.U := ⟨SBG.found_only al ⟨cfC, kC, iC, gC⟩, stC⟩
  have hA : Ch b A P.U := ⟨⟨K.1, State.isArrayOf_alike al K.2.1, K.2.2, by omega⟩, hty⟩
  have hS : StaticIs P.U ST "COMPACT_STRINGS" "Z" (.int z) := by
    obtain ⟨cfS, iS, kS, fS, st, cS, t1, t2, t3, t4, t5, t6, t7⟩ := S
    exact StaticIs.there (s := { Z with heap := P.U.heap }) ⟨cfS, iS, kS, fS, st, cS, t1, t2, t3, t4, t5, (fun q => by rw [q] at t6; cases t6), t7⟩ al rfl
  obtain ⟨v, B, X', ⟨⟨hv, E', V', q1, q2, q3, q4, q5, q6, q7, q8, q9, q10, q11⟩, hl, hc, hs⟩, st⟩ := New1.pays x D fV fC b A z (tab_of (moved hZ hw)) hfr hlo m meth c P g ig mk _ X hg hsize hdg hW hn ⟨r1, r2, rfl, hB, F1, F2, hA, hS, hz, l0, l2, hp⟩
  have al' : Z.vm.Alike B.U.vm := hZ.alike.trans X'.warmed.alike
  have hsz : E'.slots.size = D.slots.size := by
    obtain ⟨-, -, -, kB, w1, w2, w3⟩ := q1
    obtain ⟨kB', y1, y2⟩ := al'.2.2 _ _ e3
    rw [q2.2.1] at w1
    cases w1.symm.trans y1
    rw [w3, e5 i3, y2]
  refine ⟨v, B, X', ⟨_, ⟨hv, ?_, ⟨by omega, fun y cy hy hn' => q10 y cy (by simpa using hn') hy, fun y cy hy => ?_⟩, q11, ⟨E', _, q1.1, by rw [q2.2.1]; exact e2, by rw [q2.2.1]; exact e3, by rw [q2.1]; exact obV, fun _ => by rw [hsz]; exact e5 i3⟩,
    ⟨E', cfV, kV, iV, fV, q1.1, gV, stV, by rw [q2.1]; exact knV, by rw [q2.1]; exact obV, by rw [q2.2.1]; exact asV, q3⟩, ⟨E', cfC, kC, iC, fC, q1.1, gC, stC, by rw [q2.1]; exact knV, by rw [q2.1]; exact obV, by rw [q2.2.1]; exact asC, q4⟩,
    ⟨V', ⟨q5.1, State.isArrayOf_alike al'.symm q5.2.1, q5.2.2.1⟩, q6, by rw [← al'.findClass]; exact q7, q8, fun j hj => by have := q9 j hj; rwa [Nat.zero_add] at this⟩, fun O n d w F n1 n2 => ?_⟩, hl, hc, hs⟩, st⟩
  · intro y hy
    simp only [List.mem_cons, List.not_mem_nil, or_false] at hy
    rcases hy with rfl | rfl <;> rfl
  · by_cases q : y = x
    · subst q
      cases hD.symm.trans hy
      exact ⟨E', q1.1, q2.2.1, q2.1, hsz⟩
    · exact ⟨cy, q10 y cy q hy, rfl, rfl, rfl⟩
  · obtain ⟨D3, cf, k, i, f, g1, g2, g3, g4, g5, g6, g7⟩ := F
    cases hD.symm.trans g1
    simp only [RoadKit.slotOf, g2, gV, gC, Option.map_some, Option.getD_some] at n1 n2
    exact ⟨E', cf, k, i, f, q1.1, g2, g3, by rw [q2.1]; exact g4, by rw [q2.1]; exact g5, by rw [q2.2.1]; exact g6, by rw [q2.2.2 f.slot (by simp [n1, n2])]; exact g7⟩
end StrChars.Road
namespace StrChars.Road
open Jvm Sem ClassFile Op Lib Jvm.Stand Jvm.Free Jvm.Free.XT
def QA (Z : State) (x : Addr) (zn : Int32) (cs : List Int32) (h : Heap) (v : Option Value) (h' : Heap) (L : List Loc) : Prop := v = none ∧ (∀ y ∈ L, y.base = x) ∧ RoadKit.Keep h h' [x] ∧ h'.size = h.size + 1 ∧ RoadKit.Exa Z h' x ST ∧ RoadKit.Fld Z h' x ST "value" "[B" (.ref h.size) ∧ RoadKit.Fld Z h' x ST "coder" "B" (.int 0) ∧
  (∃ kb, Z.vm.findClass "[B" = some kb ∧ RoadKit.Arv Z h' h.size kb .byte zn (cs.map fun c => .int (lo8 c)) (.int 0)) ∧
  ∀ (O n d : String) (w : Value), RoadKit.Fld Z h x O n d w → RoadKit.slotOf Z O n d ≠ RoadKit.slotOf Z ST "value" "[B" → RoadKit.slotOf Z O n d ≠ RoadKit.slotOf Z ST "coder" "B" → RoadKit.Fld Z h' x O n d w
theorem backArv {p : Program} {l : Launch} {e : Env} {R : Room} {s : State} {args : Array Value} {below : List Frame} {len W : Nat} {Z : State} {a0 : Array Value} {h : Heap} (hZ : Z.Warmed39 s.vm) (hw : ∀ d ∈ words, d.before a0 Z = true) {kI : Nat} (wi : (Jvm.Cond.instantiable ST kI).before a0 Z = true)
    {x b : Addr} {k : ClassId} {zn z : Int32} {cs : List Int32} {dv v0 c0 : Value} (E : RoadKit.Exa Z h x ST) (V : RoadKit.Fld Z h x ST "value" "[B" v0) (C : RoadKit.Fld Z h x ST "coder" "B" c0) (K : RoadKit.Arv Z h b k .char zn (cs.map Value.int) dv) (S : RoadKit.Sta Z h ST "COMPACT_STRINGS" "Z" (.int z)) (hz : ¬ z = 0)
    (hlen : zn.toNatClampNeg = cs.length) (h0 : 0 < cs.length) (hbig : cs.length ≤ 536870912) (hall : ∀ c ∈ cs, ¬ 255 < c) (hfr : 4 ≤ R.frames) (hlo : W + 65 ≤ R.locals) :
    Back l R p e below s args New1.yN len W (fun P a => a = #[.ref x, .ref b] ∧ P.U.heap = h ∧ P.cells + 1 ≤ R.cells ∧ P.slots + cs.length ≤ R.slots)
      (fun P _ v B => ∃ L, QA Z x zn cs h v B.U.heap L ∧ B.locs = P.locs ++ L ∧ B.cells = P.cells + 1 ∧ B.slots = P.slots + cs.length) := by
  obtain ⟨A, K1, K2, K3, K4, K5, K6⟩ := K
  have e : A.slots.size = cs.length := K3.trans hlen
  have hat : ∀ (i : Nat) (hi : i < cs.length), A.slots[i]? = some (.int cs[i]) := fun i hi => by rw [K5 i (by omega)]; simp [List.getD_eq_getElem?_getD, hi]
  have hcv : ∀ (i : Nat) (hi : i < cs.length), cv A i = cs[i] := fun i hi => by unfold cv; rw [hat i hi]
  have hty : Typed .char A := fun i v hv => by
    have hi : i < A.slots.size := (Array.getElem?_eq_some_iff.mp hv).1
    have q := K5 i hi
    rw [hv] at q
    rw [Option.some.inj q]
    exact K6 i hi
  refine Back.mono (back hZ hw wi E V C K1 hty S hz (by omega) (by omega) (fun i hi => by rw [hcv i (by omega)]; exact hall _ (List.getElem_mem _)) hfr hlo) (fun P a hp => ⟨hp.1, hp.2.1, hp.2.2.1, by rw [e]; exact hp.2.2.2⟩) (fun P a v B hp hq => ?_)
  obtain ⟨L, ⟨q1, q2, q3, q4, q5, q6, q7, ⟨V', v1, v2, v3, v4, v5⟩, q9⟩, hl, hc, hs⟩ := hq
  refine ⟨L, ⟨q1, q2, q3, q4, q5, q6, q7, ⟨V'.cls, v3, V', v1, rfl, by rw [v4, e, hlen], K4, fun i hi => ?_, fun i hi => ?_⟩, q9⟩, hl, hc, by rw [hs, e]⟩
  · have hi' : i < cs.length := by omega
    rw [v5 i (by omega), hcv i hi']; simp [List.getD_eq_getElem?_getD, hi']
  · have hi' : i < cs.length := by omega
    simp only [List.getD_eq_getElem?_getD, List.getElem?_map, List.getElem?_eq_getElem hi', Option.map_some, Option.getD_some]
    exact fits_lo8 _
end StrChars.Road
namespace StrChars.Road
open Jvm Sem ClassFile Op Lib Jvm.Stand Jvm.Free Jvm.Free.XT
def QV (Z : State) (x : Addr) (N : Int32) (bs : List Int32) (h : Heap) (n0 : Nat) (v : Option Value) (h' : Heap) (L : List Loc) : Prop := v = none ∧ RoadKit.Fr n0 L ∧ RoadKit.Keep h h' [x] ∧ RoadKit.Exa Z h' x ST ∧ RoadKit.Fld Z h' x ST "coder" "B" (.int 0) ∧
  ∃ (t : Addr) (kb : ClassId), n0 ≤ t ∧ h.size ≤ t ∧ ¬ t = x ∧ RoadKit.Fld Z h' x ST "value" "[B" (.ref t) ∧ RoadKit.Arv Z h' t kb .byte N (bs.map Value.int) (.int 0)
theorem backV {p : Program} {l : Launch} {e : Env} {R : Room} {s : State} {args : Array Value} {below : List Frame} {len W : Nat} {Z : State} {a0 : Array Value} {h : Heap} (hZ : Z.Warmed39 s.vm) (hw : ∀ d ∈ words, d.before a0 Z = true) {kI : Nat} (wi : (Jvm.Cond.instantiable ST kI).before a0 Z = true)
    {x b : Addr} {kC : ClassId} {cs bs : List Int32} {d v0 c0 : Value} {z N : Int32} {n n0 : Nat} (hx0 : n0 ≤ x) (hh0 : n0 ≤ h.size) (E : RoadKit.Exa Z h x ST) (V : RoadKit.Fld Z h x ST "value" "[B" v0) (C : RoadKit.Fld Z h x ST "coder" "B" c0) (K : RoadKit.Arv Z h b kC .char N (cs.map Value.int) d) (S : RoadKit.Sta Z h ST "COMPACT_STRINGS" "Z" (.int z)) (hz : ¬ z = 0)
    (hn : cs.length = n) (hN : N = Int32.ofNat n) (l0 : 0 < n) (l2 : n ≤ 4000) (hp : ∀ c ∈ cs, ¬ c < 0 ∧ ¬ (255 : Int32) < c) (hb : bs = cs.map (fun c => c.toInt8.toInt32)) (hfr : 4 ≤ R.frames) (hlo : W + 65 ≤ R.locals) :
    Back l R p e below s args (⟨"java/lang/String", "<init>", "([C)V"⟩ : MethodName) len W (fun P a => a = #[.ref x, .ref b] ∧ P.U.heap = h ∧ P.cells + 1 ≤ R.cells ∧ P.slots + n ≤ R.slots)
      (fun P _ v B => ∃ L, QV Z x N bs h n0 v B.U.heap L ∧ B.locs = P.locs ++ L ∧ B.cells = P.cells + 1 ∧ B.slots = P.slots + n) := by
  subst hn hN hb
  refine Back.mono (backArv hZ hw wi E V C K S hz (n32 (by omega)) l0 (by omega) (fun c hc => (hp c hc).2) hfr hlo) (fun P a hp => hp) (fun P a v B hp hq => ?_)
  obtain ⟨L, ⟨q1, q2, q3, q4, q5, q6, q7, ⟨kb, v1, v2⟩, q9⟩, hl, hc, hs⟩ := hq
  exact ⟨L, ⟨q1, fun y hy => by rw [q2 y hy]; exact hx0, q3, q5, q7, h.size, kb, hh0, Nat.le_refl _, Nat.ne_of_gt E.lt, q6, by rw [List.map_map]; exact v2⟩, hl, hc, hs⟩
end StrChars.Road
namespace StrChars
open Jvm Sem ClassFile Op Lib Jvm.Stand Jvm.Free.XT Jvm.Free.ALB Jvm.Free.JM Jvm.Free
open Jvm.Lib.Cold (StaticIs)
def hi8 (x : Int32) : Int32 := lo8 (x >>> ((8 : Int32) &&& 31))
def pairCh (u v : Int32) : Int32 := (((u &&& 255) <<< ((0 : Int32) &&& 31)) ||| ((v &&& 255) <<< ((8 : Int32) &&& 31))).toUInt32.toUInt16.toUInt32.toInt32
theorem lo8_and (x : Int32) : (lo8 x &&& 255).toBitVec.toNat = x.toBitVec.toNat % 256 := by
  have h : (lo8 x).toBitVec = (x.toBitVec.signExtend 8).signExtend 32 := by rw [lo8, Int8.toBitVec_toInt32, Int32.toBitVec_toInt8]
  rw [Int32.toBitVec_and, BitVec.toNat_and, h]
  have e : ((x.toBitVec.signExtend 8).signExtend 32).toNat % 256 = x.toBitVec.toNat % 256 := by
    rw [BitVec.toNat_signExtend]
    have hlt := x.toBitVec.isLt
    simp only [BitVec.toNat_setWidth, BitVec.toNat_signExtend]
    split <;> split <;> omega
  rw [← e]
  exact Nat.and_two_pow_sub_one_eq_mod _ 8
theorem pair_says {c : Int32} (h0 : ¬ c < 0) (h1 : ¬ 65535 < c) : pairCh (lo8 c) (hi8 c) = c := by
  rw [Int32.lt_iff_toInt_lt] at h0 h1
  have e0 : (0 : Int32).toInt = 0 := rfl
  have e1 : (65535 : Int32).toInt = 65535 := rfl
  have hc : c.toInt = c.toBitVec.toNat := by
    have := c.toBitVec.isLt
    have e : c.toInt = c.toBitVec.toInt := rfl
    rw [e] at h0 h1
    rw [e]
    rw [BitVec.toInt_eq_toNat_cond] at h0 h1 ⊢
    split at h0 <;> split <;> omega
  have hn : c.toBitVec.toNat < 65536 := by omega
  have a1 := lo8_and c
  have a2 : (hi8 c &&& 255).toBitVec.toNat = c.toBitVec.toNat / 256 := by
    rw [hi8, lo8_and]
    have e : ((8 : Int32) &&& 31) = 8 := by decide
    rw [e, Int32.toBitVec_shiftRight]
    have e2 : ((8 : Int32).toBitVec.smod 32) = 8#32 := by decide
    rw [e2, BitVec.sshiftRight_eq', BitVec.toNat_sshiftRight_of_msb_false (by rw [BitVec.msb_eq_false_iff_two_mul_lt]; omega)]
    show c.toBitVec.toNat >>> 8 % 256 = _
    rw [Nat.shiftRight_eq_div_pow]
    omega
  unfold pairCh
  apply Int32.toBitVec_inj.mp
  apply BitVec.eq_of_toNat_eq
  have f0 : ((0 : Int32) &&& 31) = 0 := by decide
  have f8 : ((8 : Int32) &&& 31) = 8 := by decide
  rw [f0, f8]
  have g : (((lo8 c &&& 255) <<< (0 : Int32)) ||| ((hi8 c &&& 255) <<< (8 : Int32))).toBitVec.toNat = c.toBitVec.toNat := by
    rw [Int32.toBitVec_or, Int32.toBitVec_shiftLeft, Int32.toBitVec_shiftLeft]
    have s0 : ((0 : Int32).toBitVec.smod 32) = 0#32 := by decide
    have s8 : ((8 : Int32).toBitVec.smod 32) = 8#32 := by decide
    rw [s0, s8, BitVec.toNat_or]
    simp only [BitVec.shiftLeft_eq', BitVec.toNat_shiftLeft, a1, a2]
    show (c.toBitVec.toNat % 256) <<< 0 % 2 ^ 32 ||| (c.toBitVec.toNat / 256) <<< 8 % 2 ^ 32 = _
    rw [Nat.shiftLeft_zero, Nat.mod_eq_of_lt (show c.toBitVec.toNat % 256 < 2 ^ 32 by omega), Nat.mod_eq_of_lt (show (c.toBitVec.toNat / 256) <<< 8 < 2 ^ 32 by rw [Nat.shiftLeft_eq]; omega), Nat.or_comm, ← Nat.shiftLeft_add_eq_or_of_lt (by omega), Nat.shiftLeft_eq]
    omega
  show BitVec.toNat (((((lo8 c &&& 255) <<< (0 : Int32)) ||| ((hi8 c &&& 255) <<< (8 : Int32))).toBitVec.setWidth 16).setWidth 32) = _
  rw [BitVec.toNat_setWidth, BitVec.toNat_setWidth, g]
  omega
end StrChars
namespace StrChars
open Jvm Sem ClassFile Op Lib Jvm.Stand Jvm.Free.XT Jvm.Free.ALB Jvm.Free.JM Jvm.Free
open Jvm.Lib.Cold (StaticIs)
def Cod (cd : Int32) (n : Nat) (f : Nat → Int32) (V : Cell) : Prop := (cd = 0 ∧ V.slots.size = n ∧ ∀ j, j < n → V.slots[j]? = some (.int (lo8 (f j))) ∧ ¬ 255 < f j) ∨ (cd = 1 ∧ V.slots.size = 2 * n ∧ (∀ j, j < n → V.slots[2 * j]? = some (.int (lo8 (f j))) ∧ V.slots[2 * j + 1]? = some (.int (hi8 (f j)))) ∧ ∃ j, j < n ∧ 255 < f j)
def Txt (x t : Addr) (V : Cell) (cd : Int32) (n : Nat) (f : Nat → Int32) (U : State) : Prop := Exact "java/lang/String" x U ∧ Has x "java/lang/String" "value" "[B" (.ref t) U ∧ Has x "java/lang/String" "coder" "B" (.int cd) U ∧ XT.Arr .byte t V U ∧ Cod cd n f V ∧ ∀ j, j < n → ¬ f j < 0 ∧ ¬ 65535 < f j
theorem Txt.mv {x t : Addr} {V : Cell} {cd : Int32} {n : Nat} {f : Nat → Int32} {U U' : State} (h : Txt x t V cd n f U) (hal : U.vm.Alike U'.vm) (hh : U'.heap = U.heap) : Txt x t V cd n f U' := ⟨h.1.mv hal hh, h.2.1.mv hal hh, h.2.2.1.mv hal hh, h.2.2.2.1.mv hal hh, h.2.2.2.2⟩
end StrChars
namespace StrChars.Road
open Jvm Sem ClassFile Op Lib Jvm.Stand Jvm.Free Jvm.Free.XT
open Jvm.Lib.Cold (StaticIs)
theorem consq {a : Array Value} {s : State} {c : Jvm.Cond} {L : List Jvm.Cond} (h0 : c.before a s = true) (h : ∀ w ∈ L, w.before a s = true) : ∀ w ∈ c :: L, w.before a s = true := fun w hw => (List.mem_cons.mp hw).elim (fun e => e ▸ h0) (h w)
def wideBytes : List Int32 → List Value
  | [] => []
  | c :: cs => .int (lo8 c) :: .int (hi8 c) :: wideBytes cs
theorem wide_lo (d : Value) : ∀ (cs : List Int32) (j : Nat), j < cs.length → (wideBytes cs).getD (2 * j) d = .int (lo8 (cs.getD j 0))
  | [], j, h => absurd h (Nat.not_lt_zero j)
  | c :: cs, 0, _ => rfl
  | c :: cs, j + 1, h => by
    have q := wide_lo d cs j (by simpa using h)
    rw [show 2 * (j + 1) = 2 * j + 1 + 1 from by omega]
    simpa [wideBytes] using q
theorem wide_hi (d : Value) : ∀ (cs : List Int32) (j : Nat), j < cs.length → (wideBytes cs).getD (2 * j + 1) d = .int (hi8 (cs.getD j 0))
  | [], j, h => absurd h (Nat.not_lt_zero j)
  | c :: cs, 0, _ => rfl
  | c :: cs, j + 1, h => by
    have q := wide_hi d cs j (by simpa using h)
    rw [show 2 * (j + 1) + 1 = 2 * j + 1 + 1 + 1 from by omega]
    simpa [wideBytes] using q
theorem low_at (d : Value) (cs : List Int32) (j : Nat) (h : j < cs.length) : (cs.map fun c => Value.int (lo8 c)).getD j d = .int (lo8 (cs.getD j 0)) := by
  simp [List.getD_eq_getElem?_getD, h]
def CodA (cs : List Int32) (cd N2 : Int32) (vs : List Value) : Prop := (cd = 0 ∧ N2 = Int32.ofNat cs.length ∧ vs = (cs.map fun c => Value.int (lo8 c)) ∧ ∀ c ∈ cs, ¬ 255 < c) ∨ (cd = 1 ∧ N2 = Int32.ofNat (2 * cs.length) ∧ vs = wideBytes cs ∧ ∃ c ∈ cs, 255 < c)
theorem CodA.cod {cs : List Int32} {cd N2 : Int32} {vs : List Value} {V : Cell} (h : CodA cs cd N2 vs) (hn : 2 * cs.length < 2 ^ 31) (hs : V.slots.size = N2.toNatClampNeg) (hv : RoadKit.Has V vs (.int 0)) : Cod cd cs.length (fun j => cs.getD j 0) V := by
  rcases h with ⟨rfl, rfl, rfl, h⟩ | ⟨rfl, rfl, rfl, c, hc, hw⟩
  · rw [n32 (by omega)] at hs
    exact Or.inl ⟨rfl, hs, fun j hj => ⟨by rw [hv j (by omega), low_at _ _ _ hj], by
      have e : cs.getD j 0 = cs[j] := by simp [List.getD_eq_getElem?_getD, hj]
      show ¬ 255 < cs.getD j 0
      rw [e]; exact h _ (List.getElem_mem _)⟩⟩
  · rw [n32 (by omega)] at hs
    obtain ⟨j, hj, rfl⟩ := List.getElem_of_mem hc
    exact Or.inr ⟨rfl, hs, fun j hj => ⟨by rw [hv _ (by omega), wide_lo _ _ _ hj], by rw [hv _ (by omega), wide_hi _ _ _ hj]⟩, j, hj, by
      have e : cs.getD j 0 = cs[j] := by simp [List.getD_eq_getElem?_getD, hj]
      show 255 < cs.getD j 0
      rw [e]; exact hw⟩
theorem strObj {Z U : State} {a0 : Array Value} {kI : Nat} (wi : (Jvm.Cond.instantiable ST kI).before a0 Z = true) (al : Z.vm.Alike U.vm) {x : Addr} {v0 c0 : Value} (E : RoadKit.Exa Z U.heap x ST) (V : RoadKit.Fld Z U.heap x ST "value" "[B" v0) (C : RoadKit.Fld Z U.heap x ST "coder" "B" c0) :
    ∃ (D : Cell) (fV fC : Field), Blank ST x D U ∧ Found ST "value" "[B" fV U ∧ Found ST "coder" "B" fC U ∧ D.slots[fV.slot]? = some v0 ∧ D.slots[fC.slot]? = some c0 ∧ RoadKit.slotOf Z ST "value" "[B" = fV.slot ∧ RoadKit.slotOf Z ST "coder" "B" = fC.slot := by
  obtain ⟨D, cfV, kV, iV, fV, hD, gV, stV, knV, obV, asV, slV⟩ := V
  obtain ⟨D', cfC, kC, iC, fC, hD', gC, stC, -, -, asC, slC⟩ := C
  cases hD.symm.trans hD'
  obtain ⟨D2, kD, e1, e2, e3, e4, e5⟩ := E
  cases hD.symm.trans e1
  obtain ⟨c2, k2, i1, i2, i3, -⟩ := Cond.instantiable_spec wi
  cases e2.symm.trans i1
  cases e3.symm.trans i2
  obtain ⟨kU, u1, u2⟩ := al.2.2 _ _ e3
  exact ⟨D, fV, fC, ⟨hD, ⟨knV, fun q hq => by rw [hq] at obV; cases obV⟩, by rw [al.findClass]; exact e2, kU, u1, by rw [u2]; exact i3, by rw [u2]; exact e5 i3⟩, ⟨SBG.found_only al ⟨cfV, kV, iV, gV⟩, stV⟩, ⟨SBG.found_only al ⟨cfC, kC, iC, gC⟩, stC⟩, slV, slC, by simp [RoadKit.slotOf, gV], by simp [RoadKit.slotOf, gC]⟩
theorem sta_is {Z U : State} (al : Z.vm.Alike U.vm) {C n d : String} {v : Value} (S : RoadKit.Sta Z U.heap C n d v) : StaticIs U C n d v := by
  obtain ⟨cfS, iS, kS, fS, st, cS, t1, t2, t3, t4, t5, t6, t7⟩ := S
  exact StaticIs.there (s := { Z with heap := U.heap }) ⟨cfS, iS, kS, fS, st, cS, t1, t2, t3, t4, t5, (fun q => by rw [q] at t6; cases t6), t7⟩ al rfl
end StrChars.Road
namespace StrChars
open Jvm Sem ClassFile Op Lib Jvm.Stand Jvm.Free.XT Jvm.Free.ALB Jvm.Free.JM Jvm.Free
open Jvm.Lib.Cold (StaticIs)
def yv (A : Cell) (i : Nat) : Int32 := match A.slots[i]? with | some (.int x) => x | _ => 0
theorem yv_get {a : Addr} {A : Cell} {U : State} (h : XT.Arr .byte a A U) (ht : Typed .byte A) {i : Nat} (hi : i < A.slots.size) : A.slots[i]? = some (.int (yv A i)) := by
  have e := Array.getElem?_eq_getElem hi
  have f := ht i _ e
  unfold yv; rw [e]
  generalize A.slots[i] = v at f
  cases v <;> simp [fits] at f ⊢
def EqC (A B : Cell) : Prop := A.slots.size = B.slots.size ∧ ∀ i, i < A.slots.size → yv A i = yv B i
def Says01 (q : Prop) (r : Option Value) (s u : State) : Prop := ∃ v : Int32, r = some (.int v) ∧ u.heap = s.heap ∧ ((v = 1 ∧ q) ∨ (v = 0 ∧ ¬ q))
theorem Says01.mv {q : Prop} : ∀ r (U U' V V' : State), U'.heap = U.heap → V.vm.Alike V'.vm → V'.heap = V.heap → Says01 q r U V → Says01 q r U' V' :=
  fun r U U' V V' h1 _ h2 ⟨v, a, b, c⟩ => ⟨v, a, by rw [h1, h2]; exact b, c⟩
namespace LEq
def yN : MethodName := ⟨"java/lang/StringLatin1", "equals", "([B[B)Z"⟩
abbrev yB : ByteArray := jdk_43_method_13_code
theorem d0 : decode yB 0 = .ok (.aload_n 0, 1) := by decide +kernel
theorem d1 : decode yB 1 = .ok (.arraylength, 1) := by decide +kernel
theorem d2 : decode yB 2 = .ok (.aload_n 1, 1) := by decide +kernel
theorem d3 : decode yB 3 = .ok (.arraylength, 1) := by decide +kernel
theorem d4 : decode yB 4 = .ok (.if_icmp (.ne) 30, 3) := by decide +kernel
theorem d7 : decode yB 7 = .ok (.iconst 0, 1) := by decide +kernel
theorem d8 : decode yB 8 = .ok (.istore_n 2, 1) := by decide +kernel
theorem d9 : decode yB 9 = .ok (.iload_n 2, 1) := by decide +kernel
theorem d10 : decode yB 10 = .ok (.aload_n 0, 1) := by decide +kernel
theorem d11 : decode yB 11 = .ok (.arraylength, 1) := by decide +kernel
theorem d12 : decode yB 12 = .ok (.if_icmp (.ge) 20, 3) := by decide +kernel
theorem d15 : decode yB 15 = .ok (.aload_n 0, 1) := by decide +kernel
theorem d16 : decode yB 16 = .ok (.iload_n 2, 1) := by decide +kernel
theorem d17 : decode yB 17 = .ok (.baload, 1) := by decide +kernel
theorem d18 : decode yB 18 = .ok (.aload_n 1, 1) := by decide +kernel
theorem d19 : decode yB 19 = .ok (.iload_n 2, 1) := by decide +kernel
theorem d20 : decode yB 20 = .ok (.baload, 1) := by decide +kernel
theorem d21 : decode yB 21 = .ok (.if_icmp (.eq) 5, 3) := by decide +kernel
theorem d24 : decode yB 24 = .ok (.iconst 0, 1) := by decide +kernel
theorem d25 : decode yB 25 = .ok (.ireturn, 1) := by decide +kernel
theorem d26 : decode yB 26 = .ok (.iinc 2 1, 3) := by decide +kernel
theorem d29 : decode yB 29 = .ok (.goto (-20), 3) := by decide +kernel
theorem d32 : decode yB 32 = .ok (.iconst 1, 1) := by decide +kernel
theorem d33 : decode yB 33 = .ok (.ireturn, 1) := by decide +kernel
theorem d34 : decode yB 34 = .ok (.iconst 0, 1) := by decide +kernel
theorem d35 : decode yB 35 = .ok (.ireturn, 1) := by decide +kernel
def site : List Cond := []
def tab : Cond := tabOf yN yB 3 (some .boolean) site
def P (a : Addr) (A : Cell) (b : Addr) (B : Cell) (args : Array Value) (s : State) : Prop := args = #[.ref a, .ref b] ∧ XT.Arr .byte a A s ∧ Typed .byte A ∧ XT.Arr .byte b B s ∧ Typed .byte B
theorem law (l : Launch) (a : Addr) (A : Cell) (b : Addr) (B : Cell) : Law l yN 2 2 0 0 yB 3 (some .boolean) site (P a A b B) (Says01 (EqC A B)) [] 0 0 := by
  refine Law.of_walk (plainFor_of_name (by decide +kernel)) (by decide +kernel) (by decide +kernel) (by decide) (fun _ _ h => by rw [h.1]; rfl) (fun _ U U' hal hh h => ⟨h.1, h.2.1.mv hal hh, h.2.2.1, h.2.2.2.1.mv hal hh, h.2.2.2.2⟩) (fun r U U' V V' h1 hal h2 h => Says01.mv r U U' V V' h1 hal h2 h) ?_
  intro p e s m args below meth c s₁ X0 hexec hbytes hml hret hlk hnm hown hh0 W hP
  obtain ⟨rfl, hA, tA, hB, tB⟩ := hP
  have a31 := hA.2.2.2
  have b31 := hB.2.2.2
  have hA0 := hA.mv X0.warmed.alike hh0
  have hB0 := hB.mv X0.warmed.alike hh0
  have c1 : Steps p.tables e below (s₁.setTop (entryFrame m #[.ref a, .ref b] 3)) (s₁.setTop (mkF m 0 #[.val (.ref a), .val (.ref b), .unset] [])) := entry rfl
  have c2 : Steps p.tables e below (s₁.setTop (entryFrame m #[.ref a, .ref b] 3)) (s₁.setTop (mkF m 4 #[.val (.ref a), .val (.ref b), .unset] [.int (Int32.ofNat B.slots.size), .int (Int32.ofNat A.slots.size)])) := c1.trans (by
    refine XS.aloadN X0.here hexec rfl (hb hbytes d0) rfl rfl ?_
    refine X0.alen hexec hA0 rfl rfl (hb hbytes d1) ?_
    refine XS.aloadN X0.here hexec rfl (hb hbytes d2) rfl rfl ?_
    refine X0.alen hexec hB0 rfl rfl (hb hbytes d3) ?_
    exact Steps.refl _)
  by_cases hs : A.slots.size = B.slots.size
  · have c3 : Steps p.tables e below (s₁.setTop (entryFrame m #[.ref a, .ref b] 3)) (s₁.setTop (mkF m 9 #[.val (.ref a), .val (.ref b), .val (.int 0)] [])) := c2.trans (by
      refine XS.icmpNo X0.here hexec rfl (hb hbytes d4) rfl (ii_ne_f (by rw [hs])) ?_
      refine iconstV X0.here hexec rfl 0 (hb hbytes d7) (by decide) ?_
      refine XS.istoreN X0.here hexec rfl (hb hbytes d8) rfl rfl ?_
      exact Steps.refl _)
    have loop : ∀ (r i : Nat), i + r = A.slots.size → (∀ j, j < i → yv A j = yv B j) → Steps p.tables e below (s₁.setTop (entryFrame m #[.ref a, .ref b] 3)) (s₁.setTop (mkF m 9 #[.val (.ref a), .val (.ref b), .val (.int (Int32.ofNat i))] [])) → ∃ (pc : Nat) (Ls : Array Slot) (v : Int32), (pc = 25 ∨ pc = 33) ∧ ((v = 1 ∧ EqC A B) ∨ (v = 0 ∧ ¬ EqC A B)) ∧ Steps p.tables e below (s₁.setTop (entryFrame m #[.ref a, .ref b] 3)) (s₁.setTop (mkF m pc Ls [.int v])) := by
      intro r
      induction r with
      | zero =>
        intro i hi he cl
        exact ⟨33, _, 1, Or.inr rfl, Or.inl ⟨rfl, hs, fun j hj => he j (by omega)⟩, cl.trans (by
          refine XS.iloadN X0.here hexec rfl (hb hbytes d9) rfl ?_
          refine XS.aloadN X0.here hexec rfl (hb hbytes d10) rfl rfl ?_
          refine X0.alen hexec hA0 rfl rfl (hb hbytes d11) ?_
          refine XS.icmpYes X0.here hexec rfl (pc0 := 12) rfl (hb hbytes d12) rfl (ii_ge_t (nlt32 (by omega) (by omega))) (by decide) rfl ?_
          refine iconstV X0.here hexec rfl 1 (hb hbytes d32) (by decide) ?_
          exact Steps.refl _)⟩
      | succ r ih =>
        intro i hi he cl
        have c4 : Steps p.tables e below (s₁.setTop (entryFrame m #[.ref a, .ref b] 3)) (s₁.setTop (mkF m 21 #[.val (.ref a), .val (.ref b), .val (.int (Int32.ofNat i))] [.int (yv B i), .int (yv A i)])) := cl.trans (by
          refine XS.iloadN X0.here hexec rfl (hb hbytes d9) rfl ?_
          refine XS.aloadN X0.here hexec rfl (hb hbytes d10) rfl rfl ?_
          refine X0.alen hexec hA0 rfl rfl (hb hbytes d11) ?_
          refine XS.icmpNo X0.here hexec rfl (hb hbytes d12) rfl (ii_ge_f (lt32 (by omega) (by omega))) ?_
          refine XS.aloadN X0.here hexec rfl (hb hbytes d15) rfl rfl ?_
          refine XS.iloadN X0.here hexec rfl (hb hbytes d16) rfl ?_
          refine X0.aget hexec hA0 rfl (yv_get hA tA (i := i) (by omega)) rfl rfl (hb hbytes d17) ?_
          refine XS.aloadN X0.here hexec rfl (hb hbytes d18) rfl rfl ?_
          refine XS.iloadN X0.here hexec rfl (hb hbytes d19) rfl ?_
          refine X0.aget hexec hB0 rfl (yv_get hB tB (i := i) (by omega)) rfl rfl (hb hbytes d20) ?_
          exact Steps.refl _)
        by_cases hv : yv A i = yv B i
        · have c5 : Steps p.tables e below (s₁.setTop (entryFrame m #[.ref a, .ref b] 3)) (s₁.setTop (mkF m 9 #[.val (.ref a), .val (.ref b), .val (.int (Int32.ofNat i + 1))] [])) := c4.trans (by
            refine XS.icmpYes X0.here hexec rfl (pc0 := 21) rfl (hb hbytes d21) rfl (ii_eq_t hv) (by decide) rfl ?_
            refine iincV X0.here hexec rfl 1 (hb hbytes d26) (by decide) rfl rfl ?_
            refine XS.goto X0.here hexec rfl (pc0 := 29) rfl (hb hbytes d29) (by decide) rfl ?_
            exact Steps.refl _)
          rw [succ32] at c5
          exact ih (i + 1) (by omega) (fun j hj => by
            by_cases e : j = i
            · rw [e]; exact hv
            · exact he j (by omega)) c5
        · exact ⟨25, _, 0, Or.inl rfl, Or.inr ⟨rfl, fun q => hv (q.2 i (by omega))⟩, c4.trans (by
            refine XS.icmpNo X0.here hexec rfl (hb hbytes d21) rfl (ii_eq_f hv) ?_
            refine iconstV X0.here hexec rfl 0 (hb hbytes d24) (by decide) ?_
            exact Steps.refl _)⟩
    obtain ⟨pc, Ls, v, hpc, hv, cz⟩ := loop A.slots.size 0 (by omega) (fun j hj => absurd hj (Nat.not_lt_zero j)) c3
    have nv : narrow .boolean (.int v) = .int v := by rcases hv with ⟨rfl, -⟩ | ⟨rfl, -⟩ <;> rfl
    rcases hpc with rfl | rfl
    · exact ⟨s₁, some (.int v), _, _, _, X0, rfl, rfl, rfl, (fun h => by cases h), ⟨v, rfl, hh0, hv⟩, fun fs hl => cz.trans (X0.ireturnOut hexec hret nv (Or.inr (Or.inl rfl)) (hb hbytes d25) hl)⟩
    · exact ⟨s₁, some (.int v), _, _, _, X0, rfl, rfl, rfl, (fun h => by cases h), ⟨v, rfl, hh0, hv⟩, fun fs hl => cz.trans (X0.ireturnOut hexec hret nv (Or.inr (Or.inl rfl)) (hb hbytes d33) hl)⟩
  · have c3 : Steps p.tables e below (s₁.setTop (entryFrame m #[.ref a, .ref b] 3)) (s₁.setTop (mkF m 35 #[.val (.ref a), .val (.ref b), .unset] [.int 0])) := c2.trans (by
      refine XS.icmpYes X0.here hexec rfl (pc0 := 4) rfl (hb hbytes d4) rfl (ii_ne_t (ne32 a31 b31 hs)) (by decide) rfl ?_
      refine iconstV X0.here hexec rfl 0 (hb hbytes d34) (by decide) ?_
      exact Steps.refl _)
    exact ⟨s₁, some (.int 0), _, _, _, X0, rfl, rfl, rfl, (fun h => by cases h), ⟨0, rfl, hh0, Or.inr ⟨rfl, fun q => hs q.1⟩⟩, fun fs hl => c3.trans (X0.ireturnOut hexec hret rfl (Or.inr (Or.inl rfl)) (hb hbytes d35) hl)⟩
end LEq
theorem Cod.ty {cd : Int32} {n : Nat} {f : Nat → Int32} {V : Cell} (h : Cod cd n f V) : Typed .byte V := fun i v hv => by
  have hi : i < V.slots.size := (Array.getElem?_eq_some_iff.mp hv).1
  rcases h with ⟨-, k1, k2⟩ | ⟨-, k1, k2, -⟩
  · rw [(k2 i (by omega)).1] at hv; cases hv; exact fits_lo8 _
  · rcases Nat.mod_two_eq_zero_or_one i with e | e
    · obtain ⟨j, rfl⟩ : ∃ j, i = 2 * j := ⟨i / 2, by omega⟩
      rw [(k2 j (by omega)).1] at hv; cases hv; exact fits_lo8 _
    · obtain ⟨j, rfl⟩ : ∃ j, i = 2 * j + 1 := ⟨i / 2, by omega⟩
      rw [(k2 j (by omega)).2] at hv; cases hv; exact fits_lo8 _
def SameT (n : Nat) (f : Nat → Int32) (k : Nat) (g : Nat → Int32) : Prop := n = k ∧ ∀ j, j < n → f j = g j
theorem lo8_inj {x y : Int32} (h0 : ¬ x < 0) (h1 : ¬ 255 < x) (k0 : ¬ y < 0) (k1 : ¬ 255 < y) (h : lo8 x = lo8 y) : x = y := by
  rw [← lo8_mask h0 h1, ← lo8_mask k0 k1, h]
theorem Cod.eqv {cd : Int32} {n k : Nat} {f g : Nat → Int32} {V V' : Cell} (h : Cod cd n f V) (h' : Cod cd k g V') (hf : ∀ j, j < n → ¬ f j < 0 ∧ ¬ 65535 < f j) (hg : ∀ j, j < k → ¬ g j < 0 ∧ ¬ 65535 < g j) : EqC V V' ↔ SameT n f k g := by
  have yvv : ∀ {W : Cell} {i : Nat} {x : Int32}, W.slots[i]? = some (.int x) → yv W i = x := fun q => by unfold yv; rw [q]
  rcases h with ⟨rfl, k1, k2⟩ | ⟨rfl, k1, k2, -⟩
  · rcases h' with ⟨-, m1, m2⟩ | ⟨e, -⟩
    · constructor
      · rintro ⟨e1, e2⟩
        refine ⟨by omega, fun j hj => ?_⟩
        have q := e2 j (by omega)
        rw [yvv (k2 j hj).1, yvv (m2 j (by omega)).1] at q
        exact lo8_inj (hf j hj).1 (k2 j hj).2 (hg j (by omega)).1 (m2 j (by omega)).2 q
      · rintro ⟨rfl, e2⟩
        refine ⟨by omega, fun j hj => ?_⟩
        rw [yvv (k2 j (by omega)).1, yvv (m2 j (by omega)).1, e2 j (by omega)]
    · exact absurd e (by decide)
  · rcases h' with ⟨e, -⟩ | ⟨-, m1, m2, -⟩
    · exact absurd e (by decide)
    · constructor
      · rintro ⟨e1, e2⟩
        refine ⟨by omega, fun j hj => ?_⟩
        have q1 := e2 (2 * j) (by omega)
        have q2 := e2 (2 * j + 1) (by omega)
        rw [yvv (k2 j hj).1, yvv (m2 j (by omega)).1] at q1
        rw [yvv (k2 j hj).2, yvv (m2 j (by omega)).2] at q2
        rw [← pair_says (hf j hj).1 (hf j hj).2, ← pair_says (hg j (by omega)).1 (hg j (by omega)).2, q1, q2]
      · rintro ⟨rfl, e2⟩
        refine ⟨by omega, fun i hi => ?_⟩
        rcases Nat.mod_two_eq_zero_or_one i with e | e
        · obtain ⟨j, rfl⟩ : ∃ j, i = 2 * j := ⟨i / 2, by omega⟩
          rw [yvv (k2 j (by omega)).1, yvv (m2 j (by omega)).1, e2 j (by omega)]
        · obtain ⟨j, rfl⟩ : ∃ j, i = 2 * j + 1 := ⟨i / 2, by omega⟩
          rw [yvv (k2 j (by omega)).2, yvv (m2 j (by omega)).2, e2 j (by omega)]
theorem Cod.dif {cd cd' : Int32} {n k : Nat} {f g : Nat → Int32} {V V' : Cell} (h : Cod cd n f V) (h' : Cod cd' k g V') (hne : ¬ cd = cd') : ¬ SameT n f k g := by
  rintro ⟨rfl, e⟩
  rcases h with ⟨rfl, -, k2⟩ | ⟨rfl, -, -, j, hj, hw⟩
  · rcases h' with ⟨rfl, -⟩ | ⟨-, -, -, j, hj, hw⟩
    · exact hne rfl
    · exact (k2 j hj).2 (by rw [e j hj]; exact hw)
  · rcases h' with ⟨-, -, m2⟩ | ⟨rfl, -⟩
    · exact (m2 j hj).2 (by rw [← e j hj]; exact hw)
    · exact hne rfl
theorem cinst {p : Program} {l : Launch} {e : Env} {R : Room} {s : State} {m : MethodId} {args : Array Value} {below : List Frame} {meth : Method} {c : Code} {T : State} {locs : List Loc} {cells slots : Nat} (X : Stand p l e R s m args below meth c T locs cells slots) (hexec : p.tables.exec = Jvm.exec) {own C : String} {index : Nat} (hown : s.vm.findClass own = some m.cls) (hlink : (Cond.classLink own index C).before args s = true) {a : Addr} (hE : Exact C a T)
    {g : JFrame} (hg : g.method = m) {rest : List Value} (hstack : g.stack = .ref a :: rest) (hdg : decode c.code g.pc = .ok (.instanceof index, 3)) :
    ∃ T', Stand p l e R s m args below meth c T' locs cells slots ∧ T'.heap = T.heap ∧ ∀ target, Steps p.tables e below (T'.setTop { g with pc := g.pc + 3, stack := .int 1 :: rest }) target → Steps p.tables e below (T.setTop g) target := by
  obtain ⟨cB, h1, D, h2, h3, h4⟩ := hE
  have h1' : s.vm.findClass C = some cB := by rw [← X.warmed.alike.findClass]; exact h1
  obtain ⟨vm', X', st⟩ := X.instanceofYes hexec hown hlink h2 h4 h1' (by rw [h3]; exact Jvm.Free.SB.assignable_self _ _) hg hstack hdg
  exact ⟨_, X', rfl, st⟩
theorem cself {p : Program} {l : Launch} {e : Env} {R : Room} {s : State} {m : MethodId} {args : Array Value} {below : List Frame} {meth : Method} {c : Code} {T : State} {locs : List Loc} {cells slots : Nat} (X : Stand p l e R s m args below meth c T locs cells slots) (hexec : p.tables.exec = Jvm.exec) {own C : String} {index : Nat} (hown : s.vm.findClass own = some m.cls) (hlink : (Cond.classLink own index C).before args s = true) {a : Addr} (hE : Exact C a T)
    {g : JFrame} (hg : g.method = m) {rest : List Value} (hstack : g.stack = .ref a :: rest) (hdg : decode c.code g.pc = .ok (.checkcast index, 3)) :
    ∃ T', Stand p l e R s m args below meth c T' locs cells slots ∧ T'.heap = T.heap ∧ ∀ target, Steps p.tables e below (T'.setTop { g with pc := g.pc + 3, stack := .ref a :: rest }) target → Steps p.tables e below (T.setTop g) target := by
  obtain ⟨cB, h1, D, h2, h3, h4⟩ := hE
  have h1' : s.vm.findClass C = some cB := by rw [← X.warmed.alike.findClass]; exact h1
  obtain ⟨vm', X', st⟩ := X.checkcastYes hexec hown hlink h2 h4 h1' (by rw [h3]; exact Jvm.Free.SB.assignable_self _ _) hg hstack hdg
  exact ⟨_, X', rfl, fun t h => st t (by rw [← hstack] at h; exact h)⟩
namespace SEq
def yN : MethodName := ⟨"java/lang/String", "equals", "(Ljava/lang/Object;)Z"⟩
abbrev yB : ByteArray := jdk_42_method_66_code
theorem d0 : decode yB 0 = .ok (.aload_n 0, 1) := by decide +kernel
theorem d1 : decode yB 1 = .ok (.aload_n 1, 1) := by decide +kernel
theorem d2 : decode yB 2 = .ok (.if_acmp (.ne) 5, 3) := by decide +kernel
theorem d5 : decode yB 5 = .ok (.iconst 1, 1) := by decide +kernel
theorem d6 : decode yB 6 = .ok (.ireturn, 1) := by decide +kernel
theorem d7 : decode yB 7 = .ok (.aload_n 1, 1) := by decide +kernel
theorem d8 : decode yB 8 = .ok (.instanceof 10, 3) := by decide +kernel
theorem d11 : decode yB 11 = .ok (.ifCond (.eq) 43, 3) := by decide +kernel
theorem d14 : decode yB 14 = .ok (.aload_n 1, 1) := by decide +kernel
theorem d15 : decode yB 15 = .ok (.checkcast 10, 3) := by decide +kernel
theorem d18 : decode yB 18 = .ok (.astore_n 2, 1) := by decide +kernel
theorem d19 : decode yB 19 = .ok (.getstatic 38, 3) := by decide +kernel
theorem d22 : decode yB 22 = .ok (.ifCond (.eq) 14, 3) := by decide +kernel
theorem d25 : decode yB 25 = .ok (.aload_n 0, 1) := by decide +kernel
theorem d26 : decode yB 26 = .ok (.getfield 15, 3) := by decide +kernel
theorem d29 : decode yB 29 = .ok (.aload_n 2, 1) := by decide +kernel
theorem d30 : decode yB 30 = .ok (.getfield 15, 3) := by decide +kernel
theorem d33 : decode yB 33 = .ok (.if_icmp (.ne) 21, 3) := by decide +kernel
theorem d36 : decode yB 36 = .ok (.aload_n 0, 1) := by decide +kernel
theorem d37 : decode yB 37 = .ok (.getfield 9, 3) := by decide +kernel
theorem d40 : decode yB 40 = .ok (.aload_n 2, 1) := by decide +kernel
theorem d41 : decode yB 41 = .ok (.getfield 9, 3) := by decide +kernel
theorem d44 : decode yB 44 = .ok (.invokestatic 541, 3) := by decide +kernel
theorem d47 : decode yB 47 = .ok (.ifCond (.eq) 7, 3) := by decide +kernel
theorem d50 : decode yB 50 = .ok (.iconst 1, 1) := by decide +kernel
theorem d51 : decode yB 51 = .ok (.goto 4, 3) := by decide +kernel
theorem d54 : decode yB 54 = .ok (.iconst 0, 1) := by decide +kernel
theorem d55 : decode yB 55 = .ok (.ireturn, 1) := by decide +kernel
def site : List Cond := [.classLink "java/lang/String" 10 "java/lang/String", .fieldLink "java/lang/String" 38 "java/lang/String" "COMPACT_STRINGS" "Z", .fieldLink "java/lang/String" 15 "java/lang/String" "coder" "B", .fieldLink "java/lang/String" 9 "java/lang/String" "value" "[B", LEq.tab] ++ staticW "java/lang/String" 541 LEq.yN
def tab : Cond := tabOf yN yB 3 (some .boolean) site
def P (x t : Addr) (V : Cell) (cd : Int32) (n : Nat) (f : Nat → Int32) (y t' : Addr) (V' : Cell) (cd' : Int32) (k : Nat) (g : Nat → Int32) (z : Int32) (args : Array Value) (s : State) : Prop := args = #[.ref x, .ref y] ∧ Txt x t V cd n f s ∧ Txt y t' V' cd' k g s ∧ StaticIs s "java/lang/String" "COMPACT_STRINGS" "Z" (.int z) ∧ ¬ z = 0
theorem law (l : Launch) (x t : Addr) (V : Cell) (cd : Int32) (n : Nat) (f : Nat → Int32) (y t' : Addr) (V' : Cell) (cd' : Int32) (k : Nat) (g : Nat → Int32) (z : Int32) : Law l yN 2 1 1 14 yB 3 (some .boolean) site (P x t V cd n f y t' V' cd' k g z) (Says01 (SameT n f k g)) [] 0 0 := by
  refine Law.of_walk (plainFor_of_name (by decide +kernel)) (by decide +kernel) (by decide +kernel) (by decide) (fun _ _ h => by rw [h.1]; rfl) (fun _ U U' hal hh h => ⟨h.1, h.2.1.mv hal hh, h.2.2.1.mv hal hh, h.2.2.2.1.there hal hh, h.2.2.2.2⟩) (fun r U U' V V' h1 hal h2 h => Says01.mv r U U' V V' h1 hal h2 h) ?_
  intro p e s m args below meth c s₁ X0 hexec hbytes hml hret hlk hnm hown hh0 W hP
  obtain ⟨rfl, hx, hy, s1, hz⟩ := hP
  have c1 : Steps p.tables e below (s₁.setTop (entryFrame m #[.ref x, .ref y] 3)) (s₁.setTop (mkF m 2 #[.val (.ref x), .val (.ref y), .unset] [.ref y, .ref x])) := Steps.trans (entry rfl) (by
    show Steps p.tables e below (s₁.setTop (mkF m 0 #[.val (.ref x), .val (.ref y), .unset] [])) _
    refine XS.aloadN X0.here hexec rfl (hb hbytes d0) rfl rfl ?_
    refine XS.aloadN X0.here hexec rfl (hb hbytes d1) rfl rfl ?_
    exact Steps.refl _)
  by_cases hxy : x = y
  · have c2 : Steps p.tables e below (s₁.setTop (entryFrame m #[.ref x, .ref y] 3)) (s₁.setTop (mkF m 6 #[.val (.ref x), .val (.ref y), .unset] [.int 1])) := c1.trans (by
      refine acmpNo X0.here hexec rfl (hb hbytes d2) rfl rfl rfl (by simp [acmp, hxy]) ?_
      refine iconstV X0.here hexec rfl 1 (hb hbytes d5) (by decide) ?_
      exact Steps.refl _)
    subst hxy
    have ec : cd = cd' := by
      obtain ⟨D, fd, a1, a2, a3⟩ := hx.2.2.1
      obtain ⟨D', fd', b1, b2, b3⟩ := hy.2.2.1
      cases a1.symm.trans b1
      obtain ⟨q1, q2, q3, q4⟩ := a2.1
      obtain ⟨r1, r2, r3, r4⟩ := b2.1
      cases q4.symm.trans r4
      cases a3.symm.trans b3; rfl
    have et : t = t' := by
      obtain ⟨D, fd, a1, a2, a3⟩ := hx.2.1
      obtain ⟨D', fd', b1, b2, b3⟩ := hy.2.1
      cases a1.symm.trans b1
      obtain ⟨q1, q2, q3, q4⟩ := a2.1
      obtain ⟨r1, r2, r3, r4⟩ := b2.1
      cases q4.symm.trans r4
      cases a3.symm.trans b3; rfl
    subst ec et
    have ev : V = V' := by cases hx.2.2.2.1.1.symm.trans hy.2.2.2.1.1; rfl
    subst ev
    have hs : SameT n f k g := (Cod.eqv hx.2.2.2.2.1 hy.2.2.2.2.1 hx.2.2.2.2.2 hy.2.2.2.2.2).mp ⟨rfl, fun _ _ => rfl⟩
    exact ⟨s₁, some (.int 1), _, _, _, X0, rfl, rfl, rfl, (fun h => by cases h), ⟨1, rfl, hh0, Or.inl ⟨rfl, hs⟩⟩, fun fs hl => c2.trans (X0.ireturnOut hexec hret rfl (Or.inr (Or.inl rfl)) (hb hbytes d6) hl)⟩
  · have c2 : Steps p.tables e below (s₁.setTop (entryFrame m #[.ref x, .ref y] 3)) (s₁.setTop (mkF m 8 #[.val (.ref x), .val (.ref y), .unset] [.ref y])) := c1.trans (by
      refine acmpYes X0.here hexec rfl (pc0 := 2) rfl (hb hbytes d2) rfl rfl rfl (by simp [acmp, hxy]) (by decide) rfl ?_
      refine XS.aloadN X0.here hexec rfl (hb hbytes d7) rfl rfl ?_
      exact Steps.refl _)
    obtain ⟨T3, X3, q3, st3⟩ := cinst X0 hexec hown (wk W (.classLink "java/lang/String" 10 "java/lang/String")) (hy.mv X0.warmed.alike hh0).1 (g := (mkF m 8 #[.val (.ref x), .val (.ref y), .unset] [.ref y])) rfl (rest := []) rfl (hb hbytes d8)
    have hh3 := q3.trans hh0
    have c4 : Steps p.tables e below (s₁.setTop (entryFrame m #[.ref x, .ref y] 3)) (T3.setTop (mkF m 15 #[.val (.ref x), .val (.ref y), .unset] [.ref y])) := (c2.trans (st3 _ (Steps.refl _))).trans (by
      refine XS.ifNo X3.here hexec rfl (hb hbytes d11) rfl (i0_eq_f (by decide)) ?_
      refine XS.aloadN X3.here hexec rfl (hb hbytes d14) rfl rfl ?_
      exact Steps.refl _)
    obtain ⟨T5, X5, q5, st5⟩ := cself X3 hexec hown (wk W (.classLink "java/lang/String" 10 "java/lang/String")) (hy.mv X3.warmed.alike hh3).1 (g := (mkF m 15 #[.val (.ref x), .val (.ref y), .unset] [.ref y])) rfl (rest := []) rfl (hb hbytes d15)
    have hh5 := q5.trans hh3
    have c6 : Steps p.tables e below (s₁.setTop (entryFrame m #[.ref x, .ref y] 3)) (T5.setTop (mkF m 19 #[.val (.ref x), .val (.ref y), .val (.ref y)] [])) := (c4.trans (st5 _ (Steps.refl _))).trans (by
      refine XS.astoreN X5.here hexec rfl (hb hbytes d18) rfl rfl rfl ?_
      exact Steps.refl _)
    obtain ⟨T7, X7, q7, st7⟩ := X5.sget hexec hown (wk W (.fieldLink "java/lang/String" 38 "java/lang/String" "COMPACT_STRINGS" "Z")) s1 (fun _ _ h => by rw [hh5]; exact h) (g := (mkF m 19 #[.val (.ref x), .val (.ref y), .val (.ref y)] [])) rfl (hb hbytes d19)
    have hh7 := q7.trans hh5
    have c8 : Steps p.tables e below (s₁.setTop (entryFrame m #[.ref x, .ref y] 3)) (T7.setTop (mkF m 26 #[.val (.ref x), .val (.ref y), .val (.ref y)] [.ref x])) := (c6.trans (st7 _ (Steps.refl _))).trans (by
      refine XS.ifNo X7.here hexec rfl (hb hbytes d22) rfl (i0_eq_f hz) ?_
      refine XS.aloadN X7.here hexec rfl (hb hbytes d25) rfl rfl ?_
      exact Steps.refl _)
    obtain ⟨T9, X9, q9, st9⟩ := X7.hget hexec hown (wk W (.fieldLink "java/lang/String" 15 "java/lang/String" "coder" "B")) (hx.mv X7.warmed.alike hh7).2.2.1 (g := (mkF m 26 #[.val (.ref x), .val (.ref y), .val (.ref y)] [.ref x])) rfl (rest := []) rfl (hb hbytes d26)
    have hh9 := q9.trans hh7
    have c10 : Steps p.tables e below (s₁.setTop (entryFrame m #[.ref x, .ref y] 3)) (T9.setTop (mkF m 30 #[.val (.ref x), .val (.ref y), .val (.ref y)] [.ref y, .int cd])) := (c8.trans (st9 _ (Steps.refl _))).trans (by
      refine XS.aloadN X9.here hexec rfl (hb hbytes d29) rfl rfl ?_
      exact Steps.refl _)
    obtain ⟨T11, X11, q11, st11⟩ := X9.hget hexec hown (wk W (.fieldLink "java/lang/String" 15 "java/lang/String" "coder" "B")) (hy.mv X9.warmed.alike hh9).2.2.1 (g := (mkF m 30 #[.val (.ref x), .val (.ref y), .val (.ref y)] [.ref y, .int cd])) rfl (rest := [.int cd]) rfl (hb hbytes d30)
    have hh11 := q11.trans hh9
    have c12 : Steps p.tables e below (s₁.setTop (entryFrame m #[.ref x, .ref y] 3)) (T11.setTop (mkF m 33 #[.val (.ref x), .val (.ref y), .val (.ref y)] [.int cd', .int cd])) := c10.trans (st11 _ (Steps.refl _))
    by_cases hcd : cd = cd'
    · subst hcd
      have c13 : Steps p.tables e below (s₁.setTop (entryFrame m #[.ref x, .ref y] 3)) (T11.setTop (mkF m 37 #[.val (.ref x), .val (.ref y), .val (.ref y)] [.ref x])) := c12.trans (by
        refine XS.icmpNo X11.here hexec rfl (hb hbytes d33) rfl (ii_ne_f rfl) ?_
        refine XS.aloadN X11.here hexec rfl (hb hbytes d36) rfl rfl ?_
        exact Steps.refl _)
      obtain ⟨T14, X14, q14, st14⟩ := X11.hget hexec hown (wk W (.fieldLink "java/lang/String" 9 "java/lang/String" "value" "[B")) (hx.mv X11.warmed.alike hh11).2.1 (g := (mkF m 37 #[.val (.ref x), .val (.ref y), .val (.ref y)] [.ref x])) rfl (rest := []) rfl (hb hbytes d37)
      have hh14 := q14.trans hh11
      have c15 : Steps p.tables e below (s₁.setTop (entryFrame m #[.ref x, .ref y] 3)) (T14.setTop (mkF m 41 #[.val (.ref x), .val (.ref y), .val (.ref y)] [.ref y, .ref t])) := (c13.trans (st14 _ (Steps.refl _))).trans (by
        refine XS.aloadN X14.here hexec rfl (hb hbytes d40) rfl rfl ?_
        exact Steps.refl _)
      obtain ⟨T16, X16, q16, st16⟩ := X14.hget hexec hown (wk W (.fieldLink "java/lang/String" 9 "java/lang/String" "value" "[B")) (hy.mv X14.warmed.alike hh14).2.1 (g := (mkF m 41 #[.val (.ref x), .val (.ref y), .val (.ref y)] [.ref y, .ref t])) rfl (rest := [.ref t]) rfl (hb hbytes d41)
      have hh16 := q16.trans hh14
      have c17 : Steps p.tables e below (s₁.setTop (entryFrame m #[.ref x, .ref y] 3)) (T16.setTop (mkF m 44 #[.val (.ref x), .val (.ref y), .val (.ref y)] [.ref t', .ref t])) := c15.trans (st16 _ (Steps.refl _))
      obtain ⟨v18, T18, X18, E18, g18⟩ := X16.callS hexec (LEq.law l t V t' V') hown (wks W (staticW "java/lang/String" 541 LEq.yN)) (wk W LEq.tab) (W := 0) (Nat.le_of_ble_eq_true rfl) (Nat.le_of_ble_eq_true rfl) (Nat.le_refl _) (Nat.le_refl _) (g := (mkF m 44 #[.val (.ref x), .val (.ref y), .val (.ref y)] [.ref t', .ref t])) rfl (by rw [hml]; rfl) c17 (argsL := [.ref t, .ref t']) (rest := []) rfl rfl (by show 2 * 0 + 0 ≤ _; decide) (hb hbytes d44) (⟨rfl, hx.2.2.2.1.mv X16.warmed.alike hh16, hx.2.2.2.2.1.ty, hy.2.2.2.1.mv X16.warmed.alike hh16, hy.2.2.2.2.1.ty⟩)
      obtain ⟨v, rfl, q18, hv⟩ := E18
      have iff := Cod.eqv hx.2.2.2.2.1 hy.2.2.2.2.1 hx.2.2.2.2.2 hy.2.2.2.2.2
      rcases hv with ⟨rfl, he⟩ | ⟨rfl, he⟩
      · have c19 : Steps p.tables e below (s₁.setTop (entryFrame m #[.ref x, .ref y] 3)) (T18.setTop (mkF m 55 #[.val (.ref x), .val (.ref y), .val (.ref y)] [.int 1])) := Steps.trans g18 (by
          refine XS.ifNo X18.here hexec rfl (hb hbytes d47) rfl (i0_eq_f (by decide)) ?_
          refine iconstV X18.here hexec rfl 1 (hb hbytes d50) (by decide) ?_
          refine XS.goto X18.here hexec rfl (pc0 := 51) rfl (hb hbytes d51) (by decide) rfl ?_
          exact Steps.refl _)
        exact ⟨T18, some (.int 1), _, _, _, X18, rfl, rfl, rfl, (fun h => by cases h), ⟨1, rfl, q18.trans hh16, Or.inl ⟨rfl, iff.mp he⟩⟩, fun fs hl => c19.trans (X18.ireturnOut hexec hret rfl (Or.inr (Or.inl rfl)) (hb hbytes d55) hl)⟩
      · have c19 : Steps p.tables e below (s₁.setTop (entryFrame m #[.ref x, .ref y] 3)) (T18.setTop (mkF m 55 #[.val (.ref x), .val (.ref y), .val (.ref y)] [.int 0])) := Steps.trans g18 (by
          refine XS.ifYes X18.here hexec rfl (pc0 := 47) rfl (hb hbytes d47) rfl (i0_eq_t rfl) (by decide) rfl ?_
          refine iconstV X18.here hexec rfl 0 (hb hbytes d54) (by decide) ?_
          exact Steps.refl _)
        exact ⟨T18, some (.int 0), _, _, _, X18, rfl, rfl, rfl, (fun h => by cases h), ⟨0, rfl, q18.trans hh16, Or.inr ⟨rfl, fun q => he (iff.mpr q)⟩⟩, fun fs hl => c19.trans (X18.ireturnOut hexec hret rfl (Or.inr (Or.inl rfl)) (hb hbytes d55) hl)⟩
    · have c13 : Steps p.tables e below (s₁.setTop (entryFrame m #[.ref x, .ref y] 3)) (T11.setTop (mkF m 55 #[.val (.ref x), .val (.ref y), .val (.ref y)] [.int 0])) := c12.trans (by
        refine XS.icmpYes X11.here hexec rfl (pc0 := 33) rfl (hb hbytes d33) rfl (ii_ne_t hcd) (by decide) rfl ?_
        refine iconstV X11.here hexec rfl 0 (hb hbytes d54) (by decide) ?_
        exact Steps.refl _)
      exact ⟨T11, some (.int 0), _, _, _, X11, rfl, rfl, rfl, (fun h => by cases h), ⟨0, rfl, hh11, Or.inr ⟨rfl, Cod.dif hx.2.2.2.2.1 hy.2.2.2.2.1 hcd⟩⟩, fun fs hl => c13.trans (X11.ireturnOut hexec hret rfl (Or.inr (Or.inl rfl)) (hb hbytes d55) hl)⟩
theorem pays {l : Launch} {R : Room} {p : Program} {e : Env} {below : List Frame} {s : State} {sargs : Array Value} {len W : Nat} (x t : Addr) (V : Cell) (cd : Int32) (n : Nat) (f : Nat → Int32) (y t' : Addr) (V' : Cell) (cd' : Int32) (k : Nat) (g : Nat → Int32) (z : Int32) (htab : tab.before sargs s = true) (hfr : 2 ≤ R.frames) (hlo : W + 28 ≤ R.locals) :
    Back l R p e below s sargs yN len W (fun A₁ a₁ => A₁.cells + 0 ≤ R.cells ∧ A₁.slots + 0 ≤ R.slots ∧ P x t V cd n f y t' V' cd' k g z a₁ A₁.U) (fun A₁ _ v₁ B₁ => Says01 (SameT n f k g) v₁ A₁.U B₁.U ∧ B₁.locs = A₁.locs ++ [] ∧ B₁.cells = A₁.cells + 0 ∧ B₁.slots = A₁.slots + 0) :=
  (law l x t V cd n f y t' V' cd' k g z).pays htab hfr (by omega)
end SEq
end StrChars
namespace StrChars.Road
open Jvm Sem ClassFile Op Lib Jvm.Stand Jvm.Free Jvm.Free.XT
open Jvm.Lib.Cold (StaticIs)
abbrev wordsEq : List Jvm.Cond := [.code SEq.yN SEq.yB 3 (some .boolean), .initialized ST, .classLink ST 10 ST, .fieldLink ST 38 ST "COMPACT_STRINGS" "Z", .fieldLink ST 15 ST "coder" "B", .fieldLink ST 9 ST "value" "[B", .methodLink ST 541 LEq.yN, .static LEq.yN, .code LEq.yN LEq.yB 3 (some .boolean), .initialized "java/lang/StringLatin1"]
theorem tabEq_of {a : Array Value} {s : State} (h : ∀ w ∈ wordsEq, w.before a s = true) : SEq.tab.before a s = true := by
  have hl : LEq.tab.before a s = true := unparts (wk h (.code LEq.yN LEq.yB 3 (some .boolean))) (wks h (.initialized LEq.yN.cls :: LEq.site))
  have q := consq hl h
  exact unparts (wk q (.code SEq.yN SEq.yB 3 (some .boolean))) (wks q (.initialized SEq.yN.cls :: SEq.site))
theorem movedEq {Z s : State} {a0 args : Array Value} (hZ : Z.Warmed39 s.vm) (hw : ∀ d ∈ wordsEq, d.before a0 Z = true) : ∀ d ∈ wordsEq, d.before args s = true := fun d hd => by
  have t : ∀ d ∈ wordsEq, (d.onTables && d.keepsFace) = true := by decide +kernel
  exact RoadKit.mv hZ (hw d hd) (t d hd)
theorem txt_of {Z U : State} {a0 : Array Value} {kI : Nat} (wi : (Jvm.Cond.instantiable ST kI).before a0 Z = true) (al : Z.vm.Alike U.vm) {x t : Addr} {kb : ClassId} {cs : List Int32} {cd N2 : Int32} {vs : List Value} (E : RoadKit.Exa Z U.heap x ST) (V : RoadKit.Fld Z U.heap x ST "value" "[B" (.ref t)) (C : RoadKit.Fld Z U.heap x ST "coder" "B" (.int cd)) (K : RoadKit.Arv Z U.heap t kb .byte N2 vs (.int 0)) (hc : CodA cs cd N2 vs) (hb : ∀ c ∈ cs, ¬ c < 0 ∧ ¬ (65535 : Int32) < c) (l2 : cs.length ≤ 4000) :
    ∃ A, Txt x t A cd cs.length (fun j => cs.getD j 0) U := by
  obtain ⟨A, K1, K2, K3, K4, K5, K6⟩ := K
  have hcod := hc.cod (by omega) K3 K5
  obtain ⟨D, fV, fC, hB, F1, F2, g1, g2, -, -⟩ := strObj wi al E V C
  exact ⟨A, ⟨_, hB.2.2.1, D, hB.1, rfl, by cases q : D.vm <;> first | rfl | exact absurd q (hB.2.1.2 _)⟩, Has.of hB F1 g1, Has.of hB F2 g2, ⟨K1.1, State.isArrayOf_alike al K1.2.1, K1.2.2, by rcases hcod with ⟨-, q, -⟩ | ⟨-, q, -⟩ <;> omega⟩, hcod, fun j hj => by
    have e : cs.getD j 0 = cs[j] := by simp [List.getD_eq_getElem?_getD, hj]
    show ¬ cs.getD j 0 < 0 ∧ ¬ 65535 < cs.getD j 0
    rw [e]; exact hb _ (List.getElem_mem _)⟩
theorem same_list (cs ds : List Int32) : SameT cs.length (fun j => cs.getD j 0) ds.length (fun j => ds.getD j 0) ↔ cs = ds := by
  constructor
  · rintro ⟨e, q⟩
    refine List.ext_getElem e fun j h1 h2 => ?_
    have := q j h1
    simpa [List.getD_eq_getElem?_getD, h1, h2] using this
  · rintro rfl
    exact ⟨rfl, fun _ _ => rfl⟩
theorem eqW {p : Program} {l : Launch} {e : Env} {R : Room} {s : State} {args : Array Value} {below : List Frame} {len W : Nat} {Z : State} {a0 : Array Value} {h : Heap} (hZ : Z.Warmed39 s.vm) (hw : ∀ d ∈ wordsEq, d.before a0 Z = true) {kI : Nat} (wi : (Jvm.Cond.instantiable ST kI).before a0 Z = true)
    {x t : Addr} {kb : ClassId} {cs : List Int32} {cd N2 : Int32} {vs : List Value} (E : RoadKit.Exa Z h x ST) (V : RoadKit.Fld Z h x ST "value" "[B" (.ref t)) (C : RoadKit.Fld Z h x ST "coder" "B" (.int cd)) (K : RoadKit.Arv Z h t kb .byte N2 vs (.int 0)) (hc : CodA cs cd N2 vs) (hb : ∀ c ∈ cs, ¬ c < 0 ∧ ¬ (65535 : Int32) < c) (l2 : cs.length ≤ 4000)
    {y t' : Addr} {kb' : ClassId} {ds : List Int32} {cd' N2' : Int32} {vs' : List Value} (E' : RoadKit.Exa Z h y ST) (V' : RoadKit.Fld Z h y ST "value" "[B" (.ref t')) (C' : RoadKit.Fld Z h y ST "coder" "B" (.int cd')) (K' : RoadKit.Arv Z h t' kb' .byte N2' vs' (.int 0)) (hc' : CodA ds cd' N2' vs') (hb' : ∀ c ∈ ds, ¬ c < 0 ∧ ¬ (65535 : Int32) < c) (l2' : ds.length ≤ 4000)
    {z : Int32} (S : RoadKit.Sta Z h ST "COMPACT_STRINGS" "Z" (.int z)) (hz : ¬ z = 0) (hfr : 2 ≤ R.frames) (hlo : W + 28 ≤ R.locals) :
    Back l R p e below s args (⟨"java/lang/String", "equals", "(Ljava/lang/Object;)Z"⟩ : MethodName) len W (fun P a => a = #[.ref x, .ref y] ∧ P.U.heap = h ∧ P.cells + 0 ≤ R.cells ∧ P.slots + 0 ≤ R.slots)
      (fun P _ v B => ∃ L, (((v = some (.int 1) ∧ cs = ds) ∨ (v = some (.int 0) ∧ ¬ cs = ds)) ∧ L = [] ∧ B.U.heap = h) ∧ B.locs = P.locs ++ L ∧ B.cells = P.cells + 0 ∧ B.slots = P.slots + 0) := by
  intro m meth c P g ig mk a X hg hsize hdg hW hn hp'
  obtain ⟨rfl, rfl, r1, r2⟩ := hp'
  have al : Z.vm.Alike P.U.vm := hZ.alike.trans X.warmed.alike
  obtain ⟨A, hx⟩ := txt_of wi al E V C K hc hb l2
  obtain ⟨A', hy⟩ := txt_of wi al E' V' C' K' hc' hb' l2'
  obtain ⟨v, B, X', ⟨⟨w, hv, hh, hq⟩, hl, hk, hs⟩, st⟩ := SEq.pays x t A cd cs.length (fun j => cs.getD j 0) y t' A' cd' ds.length (fun j => ds.getD j 0) z (tabEq_of (movedEq hZ hw)) hfr hlo m meth c P g ig mk _ X hg hsize hdg hW hn ⟨r1, r2, rfl, hx, hy, sta_is al S, hz⟩
  refine ⟨v, B, X', ⟨[], ⟨?_, rfl, hh⟩, hl, hk, hs⟩, st⟩
  rcases hq with ⟨rfl, q⟩ | ⟨rfl, q⟩
  · exact Or.inl ⟨hv, (same_list cs ds).mp q⟩
  · exact Or.inr ⟨hv, fun e => q ((same_list cs ds).mpr e)⟩
end StrChars.Road
end Jvm.Pilot.@@N@@

namespace Jvm.Pilot.@@N@@
open Jvm Jvm.ClassFile Sem Op Lib Jvm.Free Jvm.Stand Jvm.LawKit Jvm.RoadKit Bundle Jvm.Pilot.@@N@@.Jvm.D
section Own
variable {p : Program} {l : Launch} {e : Env} {R : Room} {s : State} {m : MethodId} {args : Array Value} {below : List Frame} {meth : Method} {c : Code} {T : State} {locs : List Loc} {cells slots : Nat} {P : Outcome → State → Prop}
/-- from S the run comes to an end that answers -/
def own_Fin (p : Program) (e : Env) (below : List Frame) (P : Outcome → State → Prop) (S : State) : Prop := ∃ s₂ o, Steps p.tables e below S s₂ ∧ s₂.status = .running ∧ Ended s₂ below o ∧ P o s₂
def own_Ans (s : State) (Q : Option Value → Heap → List Loc → Prop) (k n : Nat) (o : Outcome) (t : State) : Prop := ∃ v L, o = .returned v ∧ Q v t.heap L ∧ FrameEnd s o t L k n
theorem own_on {A B : State} (k : ∀ t, Steps p.tables e below B t → Steps p.tables e below A t) (h : own_Fin p e below P B) : own_Fin p e below P A := by
  obtain ⟨s₂, o, h1, h2⟩ := h
  exact ⟨s₂, o, k _ h1, h2⟩
theorem own_via {A B : State} (k : Steps p.tables e below A B) (h : own_Fin p e below P B) : own_Fin p e below P A := own_on (fun _ r => k.trans r) h
theorem own_cast {g g' : JFrame} (q : g = g') (h : own_Fin p e below P (T.setTop g')) : own_Fin p e below P (T.setTop g) := q ▸ h
theorem own_ret {Q : Option Value → Heap → List Loc → Prop} {k n : Nat} (X : Stand p l e R s m args below meth c T locs cells slots) (hx : p.tables.exec = Jvm.exec) (hlk : meth.locks = false) {pc : Nat} {Ls : Array Slot} {w : Value} {t : FieldType} {i : Instr} {rest : List Value} (hret : meth.sig.returnType = some t) (hn : narrow t w = w)
    (hi : (i = .ireturn ∧ (t = .int ∨ t = .boolean ∨ t = .byte ∨ t = .char ∨ t = .short) ∧ ∃ z, w = .int z) ∨ (i = .lreturn ∧ t = .long ∧ ∃ z, w = .long z) ∨ (i = .dreturn ∧ t = .double ∧ ∃ z, w = .double z) ∨ (i = .freturn ∧ t = .float ∧ ∃ z, w = .float z) ∨ (i = .areturn ∧ t.isReference = true ∧ w.isRef = true))
    (hd : decode c.code pc = .ok (i, 1)) (hQ : Q (some w) T.heap locs) (hk : cells ≤ k) (hs : slots ≤ n) : own_Fin p e below (own_Ans s Q k n) (T.setTop (mkF m pc Ls (w :: rest))) := by
  obtain ⟨fs, hr, hrun, hended, hW, hsame⟩ := X.leave (v := some w) (fun h => by rw [hret] at h; cases h) hlk
  exact ⟨_, _, retOut X hx hret hn hi hd hr, hrun, hended, _, _, rfl, hQ, ⟨_, rfl⟩, hW, hsame.mono hk hs⟩
theorem own_retV {Q : Option Value → Heap → List Loc → Prop} {k n : Nat} (X : Stand p l e R s m args below meth c T locs cells slots) (hx : p.tables.exec = Jvm.exec) (hlk : meth.locks = false) {pc : Nat} {Ls : Array Slot} (hret : meth.sig.returnType = none)
    (hd : decode c.code pc = .ok (.return_, 1)) (hQ : Q none T.heap locs) (hk : cells ≤ k) (hs : slots ≤ n) : own_Fin p e below (own_Ans s Q k n) (T.setTop (mkF m pc Ls [])) := by
  obtain ⟨fs, hr, hrun, hended, hW, hsame⟩ := X.leave (v := none) (fun _ => rfl) hlk
  exact ⟨_, _, X.returnOut hx hret hd hr, hrun, hended, _, _, rfl, hQ, ⟨_, rfl⟩, hW, hsame.mono hk hs⟩
theorem own_b1 {P : Prop} [Decidable P] (h : P) : ¬ ((if P then (1 : Int32) else 0) = 0) := by simp [h]
theorem own_b0 {P : Prop} [Decidable P] (h : ¬ P) : (if P then (1 : Int32) else 0) = 0 := by simp [h]
theorem own_nb {P : Prop} [Decidable P] : narrow .boolean (.int (if P then (1 : Int32) else 0)) = .int (if P then (1 : Int32) else 0) := by split <;> rfl
theorem own_iI {t : FieldType} (h : t = .int ∨ t = .boolean ∨ t = .byte ∨ t = .char ∨ t = .short) {w : Value} {z : Int32} (hw : w = .int z) : ((Instr.ireturn = .ireturn ∧ (t = .int ∨ t = .boolean ∨ t = .byte ∨ t = .char ∨ t = .short) ∧ ∃ z, w = .int z) ∨ (Instr.ireturn = .lreturn ∧ t = .long ∧ ∃ z, w = .long z) ∨ (Instr.ireturn = .dreturn ∧ t = .double ∧ ∃ z, w = .double z) ∨ (Instr.ireturn = .freturn ∧ t = .float ∧ ∃ z, w = .float z) ∨ (Instr.ireturn = .areturn ∧ t.isReference = true ∧ w.isRef = true)) := Or.inl ⟨rfl, h, z, hw⟩
theorem own_ne_of {Z : State} {h : Heap} {x : Addr} (q : x < h.size) {b : Addr} (g : b = h.size) : x ≠ b := Nat.ne_of_lt (Nat.lt_of_lt_of_le q (Nat.le_of_eq g.symm))
theorem own_eqf {a0 : Array Value} {C n d : String} {t : Term} {a : Addr} {k : Int32} (ev : t.eval a0 s none [] s = some (.ref a)) (h : (Jvm.Cond.eq (.field t C n d) (.int k)).value a0 s none s [] = some true) : Fld s s.heap a C n d (.int k) := by
  obtain ⟨x, y, h1, h2, h3, -⟩ := cmp_v (Or.inl h)
  have hy : y = .int k := (Option.some.inj ((show (Term.int k).eval a0 s none [] s = some (.int k) from rfl).symm.trans h2)).symm
  subst hy
  cases x <;> simp [Kin, Value.isRef] at h3
  rename_i z
  have hz : z = k := by
    have q := h
    simp only [Cond.value, h1, show (Term.int k).eval a0 s none [] s = some (.int k) from rfl] at q
    simpa using q
  subst hz
  exact Fld.start ((fld_at ev).symm.trans h1)
theorem own_nf {a0 : Array Value} {C : String} {y z y' : MethodName} (hsel : (Jvm.Cond.selects C y z).before a0 s = true) (hc : y'.cls = z.cls) : NotFace s y' := fun r0 h0 => by
  obtain ⟨c2, r2, m2, q1, q2, q3, q4, kP, hkP, hkPi⟩ := Cond.selects_spec hsel
  have e1 := findClass_of_methodNamed h0
  have e2 := findClass_of_methodNamed q3
  rw [hc] at e1
  have e3 : r0.cls = m2.cls := Option.some.inj (e1.symm.trans e2)
  exact ⟨kP, by rw [e3]; exact hkP, hkPi⟩
theorem own_len {a0 : Array Value} {t : Term} {a : Addr} {cl : Cell} {z : Int32} (ht : t.eval a0 s none [] s = some (.ref a)) (ha : s.arrayAt? a = some cl) (h : (Term.length t).eval a0 s none [] s = some (.int z)) : cl.slots.size < 2 ^ 31 ∧ cl.slots.size.toInt32 = z := by
  by_cases hl : cl.slots.size < 2 ^ 31
  · rw [len_f ht ha hl] at h
    exact ⟨hl, by simpa using h⟩
  · have hl' : ¬ cl.slots.size < 2147483648 := hl
    simp [Term.eval, ht, ha, hl'] at h
theorem own_sub {a0 : Array Value} {t u : Term} {idx : List Nat} {x y : Int32} (h1 : t.eval a0 s none idx s = some (.int x)) (h2 : u.eval a0 s none idx s = some (.int y)) : (Term.sub t u).eval a0 s none idx s = some (.int (x - y)) := by simp [Term.eval, h1, h2]
theorem own_eqx {a0 : Array Value} {t u : Term} {b : Addr} (eu : u.eval a0 s none [] s = some (.ref b)) (h : (Jvm.Cond.eq t u).value a0 s none s [] = some true) : t.eval a0 s none [] s = some (.ref b) := by
  obtain ⟨x, y, h1, h2, h3, -⟩ := cmp_v (Or.inl h)
  cases eu.symm.trans h2
  have hr : x.isRef = true := by cases x <;> simp [Kin, Value.isRef] at h3 ⊢
  have q := gotT (eq_R h1 eu hr rfl) h
  subst q
  exact h1
theorem own_eqr {a0 : Array Value} {C n d : String} {t u : Term} {a b : Addr} (ev : t.eval a0 s none [] s = some (.ref a)) (eu : u.eval a0 s none [] s = some (.ref b)) (h : (Jvm.Cond.eq (.field t C n d) u).value a0 s none s [] = some true) : Fld s s.heap a C n d (.ref b) := by
  obtain ⟨x, y, h1, h2, h3, -⟩ := cmp_v (Or.inl h)
  cases eu.symm.trans h2
  have hr : x.isRef = true := by cases x <;> simp [Kin, Value.isRef] at h3 ⊢
  have q := gotT (eq_R h1 eu hr rfl) h
  subst q
  exact Fld.start ((fld_at ev).symm.trans h1)
end Own
abbrev own_M (l : Launch) (y : MethodName) (code : ByteArray) (ml : Nat) (ret : Option FieldType) (ws : List Jvm.Cond) (rm : Room) (a1 : Array Value) (Z : State) (h0 : Heap) (Q : Option Value → Heap → List Loc → Prop) : Prop := MetFree l y (head1 (Jvm.Cond.code y code ml ret :: ws) rm) (fun as_ U => as_ = a1 ∧ Z.Warmed39 U.vm ∧ U.heap = h0) (fun _ _ _ _ _ => True) (fun _ U out_ U' => ∃ v L, out_ = .returned v ∧ Q v U'.heap L ∧ FrameEnd U out_ U' L rm.cells rm.slots)
def oL (c : ByteArray) (l : List (Nat × Instr × Nat)) : Prop := ∀ x ∈ l, decode c x.1 = .ok (x.2.1, x.2.2)
theorem od {c : ByteArray} {l : List (Nat × Instr × Nat)} (h : oL c l) (i : Nat) {pc n : Nat} {q : Instr} (e : l[i]? = some (pc, q, n)) : decode c pc = .ok (q, n) := h (pc, q, n) (List.mem_of_getElem? e)
theorem own_start {p : Program} {l : Launch} {x : MethodName} {S : Spec} {code : ByteArray} {maxL : Nat} {ret : Option FieldType} {e : Env} {s : State} {m : MethodId} {args : Array Value} {below : List Frame} {meth : Method} {c : Code} {s₁ : State} {h0 : Heap} {R : Room} (Bd : BodyLoose p l x S code maxL ret e s m args below meth c s₁) (hh : s.heap = h0) (hR : S.room = R) : Stand p l e R s m args below meth c s₁ [] 0 0 ∧ s₁.heap = h0 ∧ (p.tables.exec = Jvm.exec ∧ c.code = code) ∧ meth.locks = false ∧ s.vm.findClass x.cls = some m.cls ∧ meth.sig.returnType = ret := ⟨hR ▸ Stand.of_body Bd, by rw [← hh, Bd.state]; rfl, ⟨Bd.exec, Bd.bytes⟩, BodyLoose.notSynchronized Bd, findClass_of_methodNamed Bd.named, Bd.returns⟩
section OwnX
variable {p : Program} {l : Launch} {e : Env} {R : Room} {s : State} {m : MethodId} {args : Array Value} {below : List Frame} {meth : Method} {c : Code} {T : State} {locs : List Loc} {cells slots : Nat} {P : Outcome → State → Prop} {code : ByteArray} {pc : Nat} {L : Array Slot} {S : List Value}
theorem o_ildN (X : Stand p l e R s m args below meth c T locs cells slots) (H : p.tables.exec = Jvm.exec ∧ c.code = code) {k : Fin 4} {v : Int32} (d : decode code pc = .ok (.iload_n k, 1)) (hl : L[k.val]? = some (.val (.int v))) (h : own_Fin p e below P (T.setTop (mkF m (pc + 1) L (.int v :: S)))) : own_Fin p e below P (T.setTop (mkF m pc L (S))) := own_on (fun _ q => XS.iloadN X.here H.1 rfl (hb H.2 d) hl q) h
theorem o_ild (X : Stand p l e R s m args below meth c T locs cells slots) (H : p.tables.exec = Jvm.exec ∧ c.code = code) {k : Nat} {v : Int32} (d : decode code pc = .ok (.iload k, 2)) (hl : L[k]? = some (.val (.int v))) (h : own_Fin p e below P (T.setTop (mkF m (pc + 2) L (.int v :: S)))) : own_Fin p e below P (T.setTop (mkF m pc L (S))) := own_on (fun _ q => XS.iload X.here H.1 rfl (hb H.2 d) hl q) h
theorem o_istN (X : Stand p l e R s m args below meth c T locs cells slots) (H : p.tables.exec = Jvm.exec ∧ c.code = code) {k : Fin 4} {v : Int32} {L' : Array Slot} (d : decode code pc = .ok (.istore_n k, 1)) (hl : storeLocals L k.val (.int v) = some L') (h : own_Fin p e below P (T.setTop (mkF m (pc + 1) L' (S)))) : own_Fin p e below P (T.setTop (mkF m pc L (.int v :: S))) := own_on (fun _ q => XS.istoreN X.here H.1 rfl (hb H.2 d) rfl hl q) h
theorem o_ist (X : Stand p l e R s m args below meth c T locs cells slots) (H : p.tables.exec = Jvm.exec ∧ c.code = code) {k : Nat} {v : Int32} {L' : Array Slot} (d : decode code pc = .ok (.istore k, 2)) (hl : storeLocals L k (.int v) = some L') (h : own_Fin p e below P (T.setTop (mkF m (pc + 2) L' (S)))) : own_Fin p e below P (T.setTop (mkF m pc L (.int v :: S))) := own_on (fun _ q => XS.istore X.here H.1 rfl (hb H.2 d) rfl hl q) h
theorem o_lldN (X : Stand p l e R s m args below meth c T locs cells slots) (H : p.tables.exec = Jvm.exec ∧ c.code = code) {k : Fin 4} {v : Int64} (d : decode code pc = .ok (.lload_n k, 1)) (hl : L[k.val]? = some (.val (.long v))) (h : own_Fin p e below P (T.setTop (mkF m (pc + 1) L (.long v :: S)))) : own_Fin p e below P (T.setTop (mkF m pc L (S))) := own_on (fun _ q => XS.lloadN X.here H.1 rfl (hb H.2 d) hl q) h
theorem o_lld (X : Stand p l e R s m args below meth c T locs cells slots) (H : p.tables.exec = Jvm.exec ∧ c.code = code) {k : Nat} {v : Int64} (d : decode code pc = .ok (.lload k, 2)) (hl : L[k]? = some (.val (.long v))) (h : own_Fin p e below P (T.setTop (mkF m (pc + 2) L (.long v :: S)))) : own_Fin p e below P (T.setTop (mkF m pc L (S))) := own_on (fun _ q => XS.lload X.here H.1 rfl (hb H.2 d) hl q) h
theorem o_lstN (X : Stand p l e R s m args below meth c T locs cells slots) (H : p.tables.exec = Jvm.exec ∧ c.code = code) {k : Fin 4} {v : Int64} {L' : Array Slot} (d : decode code pc = .ok (.lstore_n k, 1)) (hl : storeLocals L k.val (.long v) = some L') (h : own_Fin p e below P (T.setTop (mkF m (pc + 1) L' (S)))) : own_Fin p e below P (T.setTop (mkF m pc L (.long v :: S))) := own_on (fun _ q => XS.lstoreN X.here H.1 rfl (hb H.2 d) rfl hl q) h
theorem o_lst (X : Stand p l e R s m args below meth c T locs cells slots) (H : p.tables.exec = Jvm.exec ∧ c.code = code) {k : Nat} {v : Int64} {L' : Array Slot} (d : decode code pc = .ok (.lstore k, 2)) (hl : storeLocals L k (.long v) = some L') (h : own_Fin p e below P (T.setTop (mkF m (pc + 2) L' (S)))) : own_Fin p e below P (T.setTop (mkF m pc L (.long v :: S))) := own_on (fun _ q => XS.lstore X.here H.1 rfl (hb H.2 d) rfl hl q) h
theorem o_aldN (X : Stand p l e R s m args below meth c T locs cells slots) (H : p.tables.exec = Jvm.exec ∧ c.code = code) {k : Fin 4} {v : Value} (d : decode code pc = .ok (.aload_n k, 1)) (hl : L[k.val]? = some (.val v)) (hv : v.isRef = true) (h : own_Fin p e below P (T.setTop (mkF m (pc + 1) L (v :: S)))) : own_Fin p e below P (T.setTop (mkF m pc L (S))) := own_on (fun _ q => XS.aloadN X.here H.1 rfl (hb H.2 d) hl hv q) h
theorem o_ald (X : Stand p l e R s m args below meth c T locs cells slots) (H : p.tables.exec = Jvm.exec ∧ c.code = code) {k : Nat} {v : Value} (d : decode code pc = .ok (.aload k, 2)) (hl : L[k]? = some (.val v)) (hv : v.isRef = true) (h : own_Fin p e below P (T.setTop (mkF m (pc + 2) L (v :: S)))) : own_Fin p e below P (T.setTop (mkF m pc L (S))) := own_on (fun _ q => XS.aload X.here H.1 rfl (hb H.2 d) hl hv q) h
theorem o_astN (X : Stand p l e R s m args below meth c T locs cells slots) (H : p.tables.exec = Jvm.exec ∧ c.code = code) {k : Fin 4} {v : Value} {L' : Array Slot} (d : decode code pc = .ok (.astore_n k, 1)) (hv : v.isRef = true) (hl : storeLocals L k.val v = some L') (h : own_Fin p e below P (T.setTop (mkF m (pc + 1) L' (S)))) : own_Fin p e below P (T.setTop (mkF m pc L (v :: S))) := own_on (fun _ q => XS.astoreN X.here H.1 rfl (hb H.2 d) rfl hv hl q) h
theorem o_ast (X : Stand p l e R s m args below meth c T locs cells slots) (H : p.tables.exec = Jvm.exec ∧ c.code = code) {k : Nat} {v : Value} {L' : Array Slot} (d : decode code pc = .ok (.astore k, 2)) (hv : v.isRef = true) (hl : storeLocals L k v = some L') (h : own_Fin p e below P (T.setTop (mkF m (pc + 2) L' (S)))) : own_Fin p e below P (T.setTop (mkF m pc L (v :: S))) := own_on (fun _ q => XS.astore X.here H.1 rfl (hb H.2 d) rfl hv hl q) h
theorem o_ic (X : Stand p l e R s m args below meth c T locs cells slots) (H : p.tables.exec = Jvm.exec ∧ c.code = code) {i : Int} {v : Int32} (d : decode code pc = .ok (.iconst i, 1)) (hv : Int32.ofInt i = v) (h : own_Fin p e below P (T.setTop (mkF m (pc + 1) L (.int v :: S)))) : own_Fin p e below P (T.setTop (mkF m pc L S)) := by subst hv; exact own_on (fun _ q => XS.iconst X.here H.1 rfl (hb H.2 d) q) h
theorem o_bi (X : Stand p l e R s m args below meth c T locs cells slots) (H : p.tables.exec = Jvm.exec ∧ c.code = code) {i : Int} {v : Int32} (d : decode code pc = .ok (.bipush i, 2)) (hv : (Int8.ofInt i).toInt32 = v) (h : own_Fin p e below P (T.setTop (mkF m (pc + 2) L (.int v :: S)))) : own_Fin p e below P (T.setTop (mkF m pc L S)) := by subst hv; exact own_on (fun _ q => XS.bipush X.here H.1 rfl (hb H.2 d) q) h
theorem o_si (X : Stand p l e R s m args below meth c T locs cells slots) (H : p.tables.exec = Jvm.exec ∧ c.code = code) {i : Int} {v : Int32} (d : decode code pc = .ok (.sipush i, 3)) (hv : (Int16.ofInt i).toInt32 = v) (h : own_Fin p e below P (T.setTop (mkF m (pc + 3) L (.int v :: S)))) : own_Fin p e below P (T.setTop (mkF m pc L S)) := by subst hv; exact own_on (fun _ q => XS.sipush X.here H.1 rfl (hb H.2 d) q) h
theorem o_nul (X : Stand p l e R s m args below meth c T locs cells slots) (H : p.tables.exec = Jvm.exec ∧ c.code = code)  (d : decode code pc = .ok (.aconst_null, 1))  (h : own_Fin p e below P (T.setTop (mkF m (pc + 1) L (.null :: S)))) : own_Fin p e below P (T.setTop (mkF m pc L (S))) := own_on (fun _ q => XS.aconstNull X.here H.1 rfl (hb H.2 d) q) h
theorem o_iadd (X : Stand p l e R s m args below meth c T locs cells slots) (H : p.tables.exec = Jvm.exec ∧ c.code = code) {x y : Int32} (d : decode code pc = .ok (.iadd, 1))  (h : own_Fin p e below P (T.setTop (mkF m (pc + 1) L (.int (x + y) :: S)))) : own_Fin p e below P (T.setTop (mkF m pc L (.int y :: .int x :: S))) := own_on (fun _ q => XS.iadd X.here H.1 rfl (hb H.2 d) rfl q) h
theorem o_isub (X : Stand p l e R s m args below meth c T locs cells slots) (H : p.tables.exec = Jvm.exec ∧ c.code = code) {x y : Int32} (d : decode code pc = .ok (.isub, 1))  (h : own_Fin p e below P (T.setTop (mkF m (pc + 1) L (.int (x - y) :: S)))) : own_Fin p e below P (T.setTop (mkF m pc L (.int y :: .int x :: S))) := own_on (fun _ q => XS.isub X.here H.1 rfl (hb H.2 d) rfl q) h
theorem o_iand (X : Stand p l e R s m args below meth c T locs cells slots) (H : p.tables.exec = Jvm.exec ∧ c.code = code) {x y : Int32} (d : decode code pc = .ok (.iand, 1))  (h : own_Fin p e below P (T.setTop (mkF m (pc + 1) L (.int (x &&& y) :: S)))) : own_Fin p e below P (T.setTop (mkF m pc L (.int y :: .int x :: S))) := own_on (fun _ q => XS.iand X.here H.1 rfl (hb H.2 d) rfl q) h
theorem o_dup (X : Stand p l e R s m args below meth c T locs cells slots) (H : p.tables.exec = Jvm.exec ∧ c.code = code) {x : Value} (d : decode code pc = .ok (.dup, 1)) (hc : x.category = 1) (h : own_Fin p e below P (T.setTop (mkF m (pc + 1) L (x :: x :: S)))) : own_Fin p e below P (T.setTop (mkF m pc L (x :: S))) := own_on (fun _ q => XS.dup X.here H.1 rfl (hb H.2 d) rfl hc q) h
theorem o_pop (X : Stand p l e R s m args below meth c T locs cells slots) (H : p.tables.exec = Jvm.exec ∧ c.code = code) {x : Value} (d : decode code pc = .ok (.pop, 1)) (hc : x.category = 1) (h : own_Fin p e below P (T.setTop (mkF m (pc + 1) L (S)))) : own_Fin p e below P (T.setTop (mkF m pc L (x :: S))) := own_on (fun _ q => XS.pop X.here H.1 rfl (hb H.2 d) rfl hc q) h
theorem o_go (X : Stand p l e R s m args below meth c T locs cells slots) (H : p.tables.exec = Jvm.exec ∧ c.code = code)  {o : Int} {pc' : Nat} (d : decode code pc = .ok (.goto o, 3))  (ho : 0 ≤ (pc : Int) + o) (hp : ((pc : Int) + o).toNat = pc') (h : own_Fin p e below P (T.setTop (mkF m pc' L S))) : own_Fin p e below P (T.setTop (mkF m pc L (S))) := own_on (fun _ q => XS.goto X.here H.1 rfl rfl (hb H.2 d) ho hp q) h
theorem o_ifY (X : Stand p l e R s m args below meth c T locs cells slots) (H : p.tables.exec = Jvm.exec ∧ c.code = code) {cc : ClassFile.Cond} {x : Int32} {o : Int} {pc' : Nat} (d : decode code pc = .ok (.ifCond cc o, 3)) (hc : ifCond.holds cc x = true) (ho : 0 ≤ (pc : Int) + o) (hp : ((pc : Int) + o).toNat = pc') (h : own_Fin p e below P (T.setTop (mkF m pc' L S))) : own_Fin p e below P (T.setTop (mkF m pc L (.int x :: S))) := own_on (fun _ q => XS.ifYes X.here H.1 rfl rfl (hb H.2 d) rfl hc ho hp q) h
theorem o_icY (X : Stand p l e R s m args below meth c T locs cells slots) (H : p.tables.exec = Jvm.exec ∧ c.code = code) {cc : ClassFile.Cond} {x y : Int32} {o : Int} {pc' : Nat} (d : decode code pc = .ok (.if_icmp cc o, 3)) (hc : if_icmp.holds cc x y = true) (ho : 0 ≤ (pc : Int) + o) (hp : ((pc : Int) + o).toNat = pc') (h : own_Fin p e below P (T.setTop (mkF m pc' L S))) : own_Fin p e below P (T.setTop (mkF m pc L (.int y :: .int x :: S))) := own_on (fun _ q => XS.icmpYes X.here H.1 rfl rfl (hb H.2 d) rfl hc ho hp q) h
theorem o_ifN (X : Stand p l e R s m args below meth c T locs cells slots) (H : p.tables.exec = Jvm.exec ∧ c.code = code) {cc : ClassFile.Cond} {o : Int} {x : Int32} (d : decode code pc = .ok (.ifCond cc o, 3)) (hc : ifCond.holds cc x = false) (h : own_Fin p e below P (T.setTop (mkF m (pc + 3) L (S)))) : own_Fin p e below P (T.setTop (mkF m pc L (.int x :: S))) := own_on (fun _ q => XS.ifNo X.here H.1 rfl (hb H.2 d) rfl hc q) h
theorem o_icN (X : Stand p l e R s m args below meth c T locs cells slots) (H : p.tables.exec = Jvm.exec ∧ c.code = code) {cc : ClassFile.Cond} {o : Int} {x y : Int32} (d : decode code pc = .ok (.if_icmp cc o, 3)) (hc : if_icmp.holds cc x y = false) (h : own_Fin p e below P (T.setTop (mkF m (pc + 3) L (S)))) : own_Fin p e below P (T.setTop (mkF m pc L (.int y :: .int x :: S))) := own_on (fun _ q => XS.icmpNo X.here H.1 rfl (hb H.2 d) rfl hc q) h
theorem o_gf (X : Stand p l e R s m args below meth c T locs cells slots) (H : p.tables.exec = Jvm.exec ∧ c.code = code) {Z : State} {a0 : Array Value} {hp : Heap} (hZ : Z.Warmed39 s.vm) {own R0 O n d0 : String} {index : Nat} (hown : s.vm.findClass own = some m.cls) (w : (Cond.fieldLink own index R0 n d0).before a0 Z = true) (via : Via Z R0 O n d0) (eT : T.heap = hp) {a : Addr} {v : Value} (F : Fld Z hp a O n d0 v) (d : decode code pc = .ok (.getfield index, 3)) (h : ∀ T' : State, Stand p l e R s m args below meth c T' locs cells slots → T'.heap = hp → own_Fin p e below P (T'.setTop (mkF m (pc + 3) L (v :: S)))) : own_Fin p e below P (T.setTop (mkF m pc L (.ref a :: S))) := by
  obtain ⟨T', X', e', st⟩ := getF X H.1 hZ hown (host := "") (Or.inl w) via eT F (g := mkF m pc L (.ref a :: S)) rfl rfl (hb H.2 d)
  exact own_on st (h T' X' e')
theorem o_gs (X : Stand p l e R s m args below meth c T locs cells slots) (H : p.tables.exec = Jvm.exec ∧ c.code = code) {Z : State} {a0 : Array Value} {hp : Heap} (hZ : Z.Warmed39 s.vm) {own R0 O n d0 : String} {index : Nat} (hown : s.vm.findClass own = some m.cls) (w : (Cond.fieldLink own index R0 n d0).before a0 Z = true) (via : Via Z R0 O n d0) (eT : T.heap = hp) {v : Value} (F : Sta Z hp O n d0 v) (d : decode code pc = .ok (.getstatic index, 3)) (h : ∀ T' : State, Stand p l e R s m args below meth c T' locs cells slots → T'.heap = hp → own_Fin p e below P (T'.setTop (mkF m (pc + 3) L (v :: S)))) : own_Fin p e below P (T.setTop (mkF m pc L S)) := by
  obtain ⟨T', X', e', st⟩ := getS2 X H.1 hZ hown (host := "") (Or.inl w) via eT F (g := mkF m pc L S) rfl (hb H.2 d)
  exact own_on st (h T' X' e')
theorem o_bk {Q : Option Value → Heap → List Loc → Prop} {k j : Nat} {stk rest : List Value} {Sw : Vm → Prop} (R1 : ∃ (v : Option Value) (vm₁ : Vm) (B : Pt), Sw vm₁ ∧ Stand p l e R s m args below meth c B.U B.locs B.cells B.slots ∧ (∃ Lc, Q v B.U.heap Lc ∧ B.locs = locs ++ Lc ∧ B.cells = cells + k ∧ B.slots = slots + j) ∧ Steps p.tables e below (T.setTop (mkF m pc L stk)) (B.U.setTop { (mkF m pc L stk) with pc := (mkF m pc L stk).pc + 3, stack := v.toList ++ rest }))
    (h : ∀ (v : Option Value) (T' : State) (Lc : List Loc), Stand p l e R s m args below meth c T' (locs ++ Lc) (cells + k) (slots + j) → Q v T'.heap Lc → own_Fin p e below P (T'.setTop (mkF m (pc + 3) L (v.toList ++ rest)))) : own_Fin p e below P (T.setTop (mkF m pc L stk)) := by
  obtain ⟨v, vm₁, ⟨T', L', k', j'⟩, -, X', ⟨Lc, hQ, l1, y1, z1⟩, st⟩ := R1
  dsimp only [Pt.U, Pt.locs, Pt.cells, Pt.slots] at X' l1 y1 z1 st hQ
  subst l1 y1 z1
  exact own_via st (h v T' Lc X' hQ)
theorem o_bs {Q : Option Value → Heap → List Loc → Prop} {k j : Nat} {stk rest : List Value} {Sw : Vm → Prop} (R1 : ∃ (v : Option Value) (vm₁ : Vm) (B : Pt), Sw vm₁ ∧ Stand p l e R s m args below meth c B.U B.locs B.cells B.slots ∧ (∃ Lc, Q v B.U.heap Lc ∧ B.locs = locs ++ Lc ∧ B.cells = cells + k ∧ B.slots = slots + j) ∧ ∀ target, Steps p.tables e below (B.U.setTop { (mkF m pc L stk) with pc := (mkF m pc L stk).pc + 3, stack := v.toList ++ rest }) target → Steps p.tables e below (T.setTop (mkF m pc L stk)) target)
    (h : ∀ (v : Option Value) (T' : State) (Lc : List Loc), Stand p l e R s m args below meth c T' (locs ++ Lc) (cells + k) (slots + j) → Q v T'.heap Lc → own_Fin p e below P (T'.setTop (mkF m (pc + 3) L (v.toList ++ rest)))) : own_Fin p e below P (T.setTop (mkF m pc L stk)) := by
  obtain ⟨v, vm₁, ⟨T', L', k', j'⟩, hs, X', q, st⟩ := R1
  exact o_bk ⟨v, vm₁, ⟨T', L', k', j'⟩, hs, X', q, st _ (Steps.refl _)⟩ h
theorem o_mr {m0 : MethodId} {rest : List Value} {W : Nat} (h : (rest.map fun v => v.category).sum = W) : 2 * (mkF m0 pc L S).monitorRoom + (rest.map fun v => v.category).sum ≤ W := by
  show 2 * 0 + _ ≤ _; rw [h, Nat.mul_zero, Nat.zero_add]; exact Nat.le_refl _
end OwnX
section OwnY
variable {p : Program} {l : Launch} {e : Env} {R : Room} {s : State} {m : MethodId} {args : Array Value} {below : List Frame} {meth : Method} {c : Code} {T : State} {locs : List Loc} {cells slots : Nat} {P : Outcome → State → Prop} {code : ByteArray} {pc n : Nat} {L : Array Slot} {stk : List Value} {Z : State} {a0 : Array Value} {hp : Heap} {own : String} {index : Nat} {y z : MethodName} {as' : Array Value} {W k j : Nat} {Q : Option Value → Heap → List Loc → Prop} {argsL rest : List Value} {sig : MethodDescriptor}
theorem o_vc {C : String} {b : Addr} (X : Stand p l e R s m args below meth c T locs cells slots) (H : p.tables.exec = Jvm.exec ∧ c.code = code) (hml : c.maxLocals = n) (hZ : Z.Warmed39 s.vm) (hown : s.vm.findClass own = some m.cls) (w1 : (Cond.methodLink own index y).before a0 Z = true) (w2 : (Cond.declares y).before a0 Z = true) (nf : NotFace s y) (w3 : (Cond.selects C y z).before a0 Z = true) (w4 : (Cond.instanceMethod z).before a0 Z = true)
    (back : Back l R p e below s args z 3 W (fun A a => a = as' ∧ A.U.heap = hp ∧ A.cells + k ≤ R.cells ∧ A.slots + j ≤ R.slots) (fun A _ v B => ∃ Lc, Q v B.U.heap Lc ∧ B.locs = A.locs ++ Lc ∧ B.cells = A.cells + k ∧ B.slots = A.slots + j)) (hy : y.cls ≠ "java/lang/invoke/MethodHandle" ∧ y.cls ≠ "java/lang/invoke/VarHandle")
    (E : Exa Z hp b C) (eT : T.heap = hp) (hpd : parseMethodDescriptor y.desc = some sig) (d : decode code pc = .ok (.invokevirtual index, 3)) (hlen : argsL.length = sig.parameters.length) (hs : stk = argsL.reverse ++ .ref b :: rest) (ha : (.ref b :: argsL).toArray = as') (hL : L.size = n) (hW : (rest.map fun v => v.category).sum = W) (hc : cells + k ≤ R.cells) (hsl : slots + j ≤ R.slots)
    (h : ∀ (v : Option Value) (T' : State) (Lc : List Loc), Stand p l e R s m args below meth c T' (locs ++ Lc) (cells + k) (slots + j) → Q v T'.heap Lc → own_Fin p e below P (T'.setTop (mkF m (pc + 3) L (v.toList ++ rest)))) : own_Fin p e below P (T.setTop (mkF m pc L stk)) := by
  obtain ⟨cq, kq, qa, qb, qc⟩ := isOf hZ eT E
  refine o_bk (X.virtualBack H.1 hown (mvT hZ w1) (mvT hZ w2) nf (mvT hZ w3) (mvT hZ w4) hy back qa qc (g := mkF m pc L stk) rfl (hL.trans hml.symm) (Steps.refl _) (argsL := argsL) (rest := rest) (lenOf hpd hlen) hs (o_mr hW) (hb H.2 d) (fun _ _ => ⟨ha, eT, hc, hsl⟩)) h
theorem o_vs {C : String} {b : Addr} (X : Stand p l e R s m args below meth c T locs cells slots) (H : p.tables.exec = Jvm.exec ∧ c.code = code) (hml : c.maxLocals = n) (hZ : Z.Warmed39 s.vm) (hown : s.vm.findClass own = some m.cls) (w1 : (Cond.methodLink own index y).before a0 Z = true) (w2 : (Cond.declares y).before a0 Z = true) (w3 : (Cond.selects C y y).before a0 Z = true) (w4 : (Cond.instanceMethod y).before a0 Z = true)
    (back : Back l R p e below s args y 3 W (fun A a => a = as' ∧ A.U.heap = hp ∧ A.cells + k ≤ R.cells ∧ A.slots + j ≤ R.slots) (fun A _ v B => ∃ Lc, Q v B.U.heap Lc ∧ B.locs = A.locs ++ Lc ∧ B.cells = A.cells + k ∧ B.slots = A.slots + j)) (hy : y.cls ≠ "java/lang/invoke/MethodHandle" ∧ y.cls ≠ "java/lang/invoke/VarHandle")
    (E : Exa Z hp b C) (eT : T.heap = hp) (hpd : parseMethodDescriptor y.desc = some sig) (d : decode code pc = .ok (.invokevirtual index, 3)) (hlen : argsL.length = sig.parameters.length) (hs : stk = argsL.reverse ++ .ref b :: rest) (ha : (.ref b :: argsL).toArray = as') (hL : L.size = n) (hW : (rest.map fun v => v.category).sum = W) (hc : cells + k ≤ R.cells) (hsl : slots + j ≤ R.slots)
    (h : ∀ (v : Option Value) (T' : State) (Lc : List Loc), Stand p l e R s m args below meth c T' (locs ++ Lc) (cells + k) (slots + j) → Q v T'.heap Lc → own_Fin p e below P (T'.setTop (mkF m (pc + 3) L (v.toList ++ rest)))) : own_Fin p e below P (T.setTop (mkF m pc L stk)) := o_vc X H hml hZ hown w1 w2 (notFace_of_selects (args := #[]) (mvT hZ w3)) w3 w4 back hy E eT hpd d hlen hs ha hL hW hc hsl h
theorem o_pc {bytes : ByteArray} {maxL : Nat} {ret : Option FieldType} {C : String} {b : Addr} (X : Stand p l e R s m args below meth c T locs cells slots) (H : p.tables.exec = Jvm.exec ∧ c.code = code) (hml : c.maxLocals = n) (hZ : Z.Warmed39 s.vm) (hown : s.vm.findClass own = some m.cls) (w1 : (Cond.methodLink own index y).before a0 Z = true) (w2 : (Cond.instanceMethod y).before a0 Z = true) (w3 : (Cond.selects y.cls y y).before args s = true) (w4 : (Cond.privateMethod y).before a0 Z = true) (w5 : (Cond.code y bytes maxL ret).before a0 Z = true)
    (back : Back l R p e below s args y 3 W (fun A a => a = as' ∧ A.U.heap = hp ∧ A.cells + k ≤ R.cells ∧ A.slots + j ≤ R.slots) (fun A _ v B => ∃ Lc, Q v B.U.heap Lc ∧ B.locs = A.locs ++ Lc ∧ B.cells = A.cells + k ∧ B.slots = A.slots + j)) (hy : y.cls ≠ "java/lang/invoke/MethodHandle" ∧ y.cls ≠ "java/lang/invoke/VarHandle")
    (E : Exa Z hp b C) (eT : T.heap = hp) (hpd : parseMethodDescriptor y.desc = some sig) (d : decode code pc = .ok (.invokevirtual index, 3)) (hlen : argsL.length = sig.parameters.length) (hs : stk = argsL.reverse ++ .ref b :: rest) (ha : (.ref b :: argsL).toArray = as') (hL : L.size = n) (hW : (rest.map fun v => v.category).sum = W) (hc : cells + k ≤ R.cells) (hsl : slots + j ≤ R.slots)
    (h : ∀ (v : Option Value) (T' : State) (Lc : List Loc), Stand p l e R s m args below meth c T' (locs ++ Lc) (cells + k) (slots + j) → Q v T'.heap Lc → own_Fin p e below P (T'.setTop (mkF m (pc + 3) L (v.toList ++ rest)))) : own_Fin p e below P (T.setTop (mkF m pc L stk)) := by
  obtain ⟨cq, q, q'⟩ := E.cell
  refine o_bk (X.privateBack H.1 hown (mvT hZ w1) (mvT hZ w2) w3 (Cond.privateMethod_at (mvP hZ w4 (args := #[]))) (mvT hZ w5) hy back (g := mkF m pc L stk) rfl (hL.trans hml.symm) (Steps.refl _) (a := b) (by rw [eT]; exact q) q' (argsL := argsL) (rest := rest) (lenOf hpd hlen) hs (o_mr hW) (hb H.2 d) (fun _ _ => ⟨ha, eT, hc, hsl⟩)) h
theorem o_sc {bytes : ByteArray} {maxL : Nat} {b : Addr} (X : Stand p l e R s m args below meth c T locs cells slots) (H : p.tables.exec = Jvm.exec ∧ c.code = code) (hml : c.maxLocals = n) (hZ : Z.Warmed39 s.vm) (hown : s.vm.findClass own = some m.cls) (w1 : (Cond.methodLink own index y).before a0 Z = true) (w2 : (Cond.instanceMethod y).before a0 Z = true) (w5 : (Cond.code y bytes maxL none).before a0 Z = true)
    (back : Back l R p e below s args y 3 W (fun A a => a = as' ∧ A.U.heap = hp ∧ A.cells + k ≤ R.cells ∧ A.slots + j ≤ R.slots) (fun A _ v B => ∃ Lc, Q v B.U.heap Lc ∧ B.locs = A.locs ++ Lc ∧ B.cells = A.cells + k ∧ B.slots = A.slots + j)) (hy0 : y.name = "<init>") (hy : y.cls ≠ "java/lang/invoke/MethodHandle" ∧ y.cls ≠ "java/lang/invoke/VarHandle")
    (eT : T.heap = hp) (hpd : parseMethodDescriptor y.desc = some sig) (d : decode code pc = .ok (.invokespecial index, 3)) (hlen : argsL.length = sig.parameters.length) (hs : stk = argsL.reverse ++ .ref b :: rest) (ha : (.ref b :: argsL).toArray = as') (hL : L.size = n) (hW : (rest.map fun v => v.category).sum = W) (hc : cells + k ≤ R.cells) (hsl : slots + j ≤ R.slots)
    (h : ∀ (v : Option Value) (T' : State) (Lc : List Loc), Stand p l e R s m args below meth c T' (locs ++ Lc) (cells + k) (slots + j) → Q v T'.heap Lc → own_Fin p e below P (T'.setTop (mkF m (pc + 3) L (v.toList ++ rest)))) : own_Fin p e below P (T.setTop (mkF m pc L stk)) := by
  refine o_bk (X.specialBack H.1 hy0 hown (mvT hZ w1) (mvT hZ w2) (mvT hZ w5) hy back (g := mkF m pc L stk) rfl (hL.trans hml.symm) (Steps.refl _) (a := b) (argsL := argsL) (rest := rest) (lenOf hpd hlen) hs (o_mr hW) (hb H.2 d) (fun _ _ => ⟨ha, eT, hc, hsl⟩)) h
theorem o_tc {bytes : ByteArray} {maxL : Nat} {ret : Option FieldType} (X : Stand p l e R s m args below meth c T locs cells slots) (H : p.tables.exec = Jvm.exec ∧ c.code = code) (hml : c.maxLocals = n) (hZ : Z.Warmed39 s.vm) (hown : s.vm.findClass own = some m.cls) (w1 : (Cond.methodLink own index y).before a0 Z = true) (w2 : (Cond.static y).before a0 Z = true) (w3 : (Cond.initialized y.cls).before a0 Z = true) (w5 : (Cond.code y bytes maxL ret).before a0 Z = true)
    (back : Back l R p e below s args y 3 W (fun A a => a = as' ∧ A.U.heap = hp ∧ A.cells + k ≤ R.cells ∧ A.slots + j ≤ R.slots) (fun A _ v B => ∃ Lc, Q v B.U.heap Lc ∧ B.locs = A.locs ++ Lc ∧ B.cells = A.cells + k ∧ B.slots = A.slots + j)) (hy : y.cls ≠ "java/lang/invoke/MethodHandle" ∧ y.cls ≠ "java/lang/invoke/VarHandle")
    (eT : T.heap = hp) (hpd : parseMethodDescriptor y.desc = some sig) (d : decode code pc = .ok (.invokestatic index, 3)) (hlen : argsL.length = sig.parameters.length) (hs : stk = argsL.reverse ++ rest) (ha : argsL.toArray = as') (hL : L.size = n) (hW : (rest.map fun v => v.category).sum = W) (hc : cells + k ≤ R.cells) (hsl : slots + j ≤ R.slots)
    (h : ∀ (v : Option Value) (T' : State) (Lc : List Loc), Stand p l e R s m args below meth c T' (locs ++ Lc) (cells + k) (slots + j) → Q v T'.heap Lc → own_Fin p e below P (T'.setTop (mkF m (pc + 3) L (v.toList ++ rest)))) : own_Fin p e below P (T.setTop (mkF m pc L stk)) := by
  refine o_bs (Jvm.LawKit.callS X H.1 hown (mvT hZ w1) (mvT hZ w2) (mvT hZ w3) (mvT hZ w5) hy back (g := mkF m pc L stk) rfl (hL.trans hml.symm) (argsL := argsL) (rest := rest) (lenOf hpd hlen) hs (o_mr hW) (hb H.2 d) (fun _ _ => ⟨ha, eT, hc, hsl⟩)) h
theorem o_pk {n0 : Nat} {w : Value} (hq : ∀ v h L, Q v h L → v = some w ∧ Fr n0 L ∧ h = hp) (N : Fr n0 locs) (h : ∀ (T' : State) (Lc : List Loc), Stand p l e R s m args below meth c T' (locs ++ Lc) (cells + k) (slots + j) → Fr n0 (locs ++ Lc) → T'.heap = hp → own_Fin p e below P (T'.setTop (mkF m (pc + 3) L (w :: rest)))) : ∀ (v : Option Value) (T' : State) (Lc : List Loc), Stand p l e R s m args below meth c T' (locs ++ Lc) (cells + k) (slots + j) → Q v T'.heap Lc → own_Fin p e below P (T'.setTop (mkF m (pc + 3) L (v.toList ++ rest))) := fun v T' Lc X' q => by
  obtain ⟨rfl, N', e'⟩ := hq _ _ _ q
  exact h T' Lc X' (Fr.app N N') e'
theorem o_pv {n0 : Nat} (hq : ∀ v h L, Q v h L → v = none ∧ Fr n0 L ∧ h = hp) (N : Fr n0 locs) (h : ∀ (T' : State) (Lc : List Loc), Stand p l e R s m args below meth c T' (locs ++ Lc) (cells + k) (slots + j) → Fr n0 (locs ++ Lc) → T'.heap = hp → own_Fin p e below P (T'.setTop (mkF m (pc + 3) L rest))) : ∀ (v : Option Value) (T' : State) (Lc : List Loc), Stand p l e R s m args below meth c T' (locs ++ Lc) (cells + k) (slots + j) → Q v T'.heap Lc → own_Fin p e below P (T'.setTop (mkF m (pc + 3) L (v.toList ++ rest))) := fun v T' Lc X' q => by
  obtain ⟨rfl, N', e'⟩ := hq _ _ _ q
  exact h T' Lc X' (Fr.app N N') e'
end OwnY
theorem ow {Z : State} {a0 : Array Value} (hw : ∀ d ∈ tables_1, d.before a0 Z = true) (i : Nat) {d : Jvm.Cond} (h : tables_1[i]? = some d) : d.before a0 Z = true := hw _ (List.mem_of_getElem? h)
section OwnW
variable {p : Program} {l : Launch} {e : Env} {R : Room} {s : State} {m : MethodId} {args : Array Value} {below : List Frame} {meth : Method} {c : Code} {T : State} {locs : List Loc} {cells slots : Nat} {P : Outcome → State → Prop} {Z : State} {EL : List (String × Nat)} {a0 : Array Value} {vm0 : Vm}
def own_AnsW (s Z : State) (EL : List (String × Nat)) (Q : Option Value → Heap → List Loc → Prop) (k n : Nat) (o : Outcome) (t : State) : Prop := ∃ v L, o = .returned v ∧ Q v t.heap L ∧ CHr Z EL s.vm s.heap t.vm t.heap ∧ ReturnedEndW s o t L k n
theorem own_monoW {o : Outcome} {t : State} {L : List Loc} {k n k' n' : Nat} (h : ReturnedEndW s o t L k n) (hk : k ≤ k') (hn : n ≤ n') : ReturnedEndW s o t L k' n' := ⟨h.1, h.2.1, h.2.2.1, h.2.2.2.mono hk hn⟩
theorem own_retW {Q : Option Value → Heap → List Loc → Prop} {k n k0 : Nat} (X : Stand p l e R (s.setVm vm0) m args below meth c T locs cells slots) (hx : p.tables.exec = Jvm.exec) (hlk : meth.locks = false) {pc : Nat} {Ls : Array Slot} {w : Value} {t : FieldType} {i : Instr} {rest : List Value} (hret : meth.sig.returnType = some t) (hn : narrow t w = w)
    (hi : (i = .ireturn ∧ (t = .int ∨ t = .boolean ∨ t = .byte ∨ t = .char ∨ t = .short) ∧ ∃ z, w = .int z) ∨ (i = .lreturn ∧ t = .long ∧ ∃ z, w = .long z) ∨ (i = .dreturn ∧ t = .double ∧ ∃ z, w = .double z) ∨ (i = .freturn ∧ t = .float ∧ ∃ z, w = .float z) ∨ (i = .areturn ∧ t.isReference = true ∧ w.isRef = true))
    (hd : decode c.code pc = .ok (i, 1)) (hS : s.Since vm0 k0) (hk0 : k0 ≤ T.heap.size) (hZ : Z.Warmed39 vm0) (hEL : EW Z a0 EL) (hC : CHr Z EL s.vm s.heap vm0 T.heap) (hQ : Q (some w) T.heap locs) (hk : cells ≤ k) (hs : slots ≤ n) : own_Fin p e below (own_AnsW s Z EL Q k n) (T.setTop (mkF m pc Ls (w :: rest))) := by
  obtain ⟨fs, hr, hrun, hended, hE⟩ := X.leaveW hS hk0 (v := some w) (fun h => by rw [hret] at h; cases h) hlk
  exact ⟨_, _, retOut X hx hret hn hi hd hr, hrun, hended, _, _, rfl, hQ, (show CHr Z EL s.vm s.heap T.vm T.heap from hC.trans (CHv.at X hZ hEL hC.1)), own_monoW hE hk hs⟩
theorem own_retVW {Q : Option Value → Heap → List Loc → Prop} {k n k0 : Nat} (X : Stand p l e R (s.setVm vm0) m args below meth c T locs cells slots) (hx : p.tables.exec = Jvm.exec) (hlk : meth.locks = false) {pc : Nat} {Ls : Array Slot} (hret : meth.sig.returnType = none)
    (hd : decode c.code pc = .ok (.return_, 1)) (hS : s.Since vm0 k0) (hk0 : k0 ≤ T.heap.size) (hZ : Z.Warmed39 vm0) (hEL : EW Z a0 EL) (hC : CHr Z EL s.vm s.heap vm0 T.heap) (hQ : Q none T.heap locs) (hk : cells ≤ k) (hs : slots ≤ n) : own_Fin p e below (own_AnsW s Z EL Q k n) (T.setTop (mkF m pc Ls [])) := by
  obtain ⟨fs, hr, hrun, hended, hE⟩ := X.leaveW hS hk0 (v := none) (fun _ => rfl) hlk
  exact ⟨_, _, X.returnOut hx hret hd hr, hrun, hended, _, _, rfl, hQ, (show CHr Z EL s.vm s.heap T.vm T.heap from hC.trans (CHv.at X hZ hEL hC.1)), own_monoW hE hk hs⟩
theorem own_backX {y : MethodName} {bytes : ByteArray} {maxL : Nat} {ret : Option FieldType} {rm : Room} {len W : Nat} {as' : Array Value} {h : Heap} {Q : Option Value → Heap → List Loc → Prop} (Ex : Vm → Prop)
    (hM : MetFree l y (head1 [Jvm.Cond.code y bytes maxL ret] rm) (fun a U => a = as' ∧ Z.Warmed39 U.vm ∧ U.heap = h ∧ CHv Z EL U.vm h ∧ Ex U.vm) (fun _ _ _ _ _ => True) (fun _ U o U' => ∃ v L, o = .returned v ∧ Q v U'.heap L ∧ CHr Z EL U.vm U.heap U'.vm U'.heap ∧ ReturnedEndW U o U' L rm.cells rm.slots))
    (hZ : Z.Warmed39 vm0) (wc : (Jvm.Cond.code y bytes maxL ret).before a0 Z = true) (wz : (Jvm.Cond.initialized y.cls).before a0 Z = true) (hf : rm.frames + 1 ≤ R.frames) (hl : W + (maxL + 11) + rm.locals ≤ R.locals) (hEL : EW Z a0 EL) (H : CHv Z EL vm0 h) (hEx : ∀ vm1, CHr Z EL vm0 h vm1 h → Ex vm1) :
    BackS l R p e below (s.setVm vm0) args y len W (fun A a => a = as' ∧ A.U.heap = h ∧ A.cells + rm.cells ≤ R.cells ∧ A.slots + rm.slots ≤ R.slots)
      (fun A _ v B => ∃ L, Q v B.U.heap L ∧ B.locs = A.locs ++ L ∧ B.cells = A.cells + rm.cells ∧ B.slots = A.slots + rm.slots ∧ CHr Z EL vm0 h B.U.vm B.U.heap) := by
  refine BackS.of_freeW (bytes := bytes) (maxL := maxL) (ret := ret) (E := fun _ first o t L k n => (∃ v, o = .returned v ∧ Q v t.heap L) ∧ k = rm.cells ∧ n = rm.slots ∧ CHr Z EL first.vm first.heap t.vm t.heap) hM hf hl ?_ ?_ (fun _ _ _ _ _ _ _ _ _ => trivial) ?_ ?_
  · intro m meth c A a Y hp
    have hU : Z.Warmed39 A.U.vm := wtrans (s := s.setVm vm0) hZ Y.warmed
    exact ⟨by show (Jvm.Cond.and _ .tt).before a A.U = true; rw [Cond.before_and, mv hU wc]; rfl, mv hU wc, mv hU wz, hp.2.2.1, hp.2.2.2⟩
  · intro m meth c A a g mk Y hp
    have hA := CHv.at Y hZ hEL H
    exact ⟨hp.1, wtrans (s := s.setVm vm0) hZ Y.warmed, hp.2.1, hA.1, hEx _ hA⟩
  · intro a first o t hq
    obtain ⟨v, L, h1, h2, h3, h4⟩ := hq
    exact ⟨L, _, _, h4, ⟨v, h1, h2⟩, rfl, rfl, h3⟩
  · intro m meth c A a g mk v t L k n Y hp _ _ hE
    obtain ⟨⟨v', e3, e4⟩, e1, e2, e5⟩ := hE
    cases e3
    subst e1 e2
    refine ⟨L, e4, rfl, rfl, rfl, (CHv.at Y hZ hEL H).trans ?_⟩
    rw [← hp.2.1]
    exact e5
end OwnW
def own_EL : List (String × Nat) := [("com/example/covenantry/covenantry/input/Ledger", 181), ("java/lang/String", 7)]
theorem own_wS {Z : State} {a0 : Array Value} (hw : ∀ d ∈ tables_1, d.before a0 Z = true) : ∀ a ∈ Bundle.stringAtoms, a.before a0 Z = true := by
  intro a ha
  simp only [Bundle.stringAtoms, List.mem_cons, List.not_mem_nil, or_false] at ha
  rcases ha with rfl | rfl | rfl | rfl | rfl | rfl | rfl
  · exact (ow hw 6 rfl)
  · exact (ow hw 5 rfl)
  · exact (ow hw 19 rfl)
  · exact (ow hw 20 rfl)
  · exact (ow hw 21 rfl)
  · exact (ow hw 22 rfl)
  · exact (ow hw 23 rfl)
theorem own_narc {x : Int32} (h : ¬ x < 0 ∧ ¬ (255 : Int32) < x) : nar .char x = x := by
  have b := c_i2c x
  have z0 : (0 : Int32).toInt = 0 := by decide
  have z1 : (255 : Int32).toInt = 255 := by decide
  rw [Int32.lt_iff_toInt_lt, Int32.lt_iff_toInt_lt] at h
  rw [← Int32.toInt_inj]
  show x.toUInt32.toUInt16.toUInt32.toInt32.toInt = _
  omega
theorem own_c255 (x : Int32) : ¬ (x &&& (255 : Int32)).toUInt32.toUInt16.toUInt32.toInt32 < 0 ∧ ¬ (255 : Int32) < (x &&& (255 : Int32)).toUInt32.toUInt16.toUInt32.toInt32 := by
  have a := c_i2c (x &&& (255 : Int32))
  have m := c_mask x 255 8 (by decide) (by decide)
  have z0 : (0 : Int32).toInt = 0 := by decide
  have z1 : (255 : Int32).toInt = 255 := by decide
  rw [Int32.lt_iff_toInt_lt, Int32.lt_iff_toInt_lt]
  omega
theorem own_r16 {cs : List Int32} (h : ∀ c ∈ cs, ¬ c < 0 ∧ ¬ (255 : Int32) < c) : ∀ c ∈ cs, ¬ c < 0 ∧ ¬ (65535 : Int32) < c := fun c q => ⟨(h c q).1, fun z => (h c q).2 (by
  have z1 : (255 : Int32).toInt = 255 := by decide
  have z2 : (65535 : Int32).toInt = 65535 := by decide
  rw [Int32.lt_iff_toInt_lt] at z ⊢
  omega)⟩
theorem own_and3 (x : Int32) : x &&& 3 = 0 ∨ x &&& 3 = 1 ∨ x &&& 3 = 2 ∨ x &&& 3 = 3 := by
  have m := c_mask x 3 2 (by decide) (by decide)
  have z0 : (0 : Int32).toInt = 0 := by decide
  have z1 : (1 : Int32).toInt = 1 := by decide
  have z2 : (2 : Int32).toInt = 2 := by decide
  have z3 : (3 : Int32).toInt = 3 := by decide
  rw [← Int32.toInt_inj, ← Int32.toInt_inj, ← Int32.toInt_inj, ← Int32.toInt_inj]
  omega
theorem own_cod {cs : List Int32} {n : Nat} (hn : cs.length = n) (hb : ∀ c ∈ cs, ¬ (255 : Int32) < c) : StrChars.Road.CodA cs 0 (Int32.ofNat n) ((cs.map StrChars.lo8).map Value.int) := by
  subst hn
  exact Or.inl ⟨rfl, rfl, by rw [List.map_map]; rfl, hb⟩
theorem own_eq1 {v : Option Value} {cs ds : List Int32} (h : (v = some (.int 1) ∧ cs = ds) ∨ (v = some (.int 0) ∧ ¬ cs = ds)) (q : cs = ds) : v = some (.int (1 : Int32)) := by
  rcases h with h | h
  · exact h.1
  · exact absurd q h.2
theorem own_eq0 {v : Option Value} {cs ds : List Int32} (h : (v = some (.int 1) ∧ cs = ds) ∨ (v = some (.int 0) ∧ ¬ cs = ds)) (q : ¬ cs = ds) : v = some (.int (0 : Int32)) := by
  rcases h with h | h
  · exact absurd h.2 q
  · exact h.1
theorem own_selfsel {s : State} {args : Array Value} {K : String} {y : MethodName} (hs : (Cond.selects K y y).before args s = true) (hp : s.PrivateAt y) (hi : (Cond.instanceMethod y).before args s = true) (hy : y.cls ≠ "java/lang/invoke/MethodHandle" ∧ y.cls ≠ "java/lang/invoke/VarHandle") : (Cond.selects y.cls y y).before args s = true := by
  obtain ⟨c, r, m, h1, h2, h3, h4, k, hk, hni⟩ := Cond.selects_spec hs
  exact Jvm.Stand.selects_self_of_private (findClass_of_methodNamed h3) hk hni hp hi hy
theorem own_same {a0 : Array Value} {Z : State} {y x z : MethodName} {K : String} (hd : (Cond.declares y).before a0 Z = true) (hs : (Cond.selects K x z).before a0 Z = true) (hz : z.cls = y.cls) (hy : y.cls ≠ "java/lang/invoke/MethodHandle" ∧ y.cls ≠ "java/lang/invoke/VarHandle") : (Cond.sameMethod y.cls y.cls y.name y.desc).before a0 Z = true := by
  obtain ⟨m, meth, h1, h2, h3, h4⟩ := Cond.declares_spec hd
  obtain ⟨c, r, m', g1, g2, g3, g4, k, hk, hni⟩ := Cond.selects_spec hs
  have h5 : Z.methodFound? y.cls y.name y.desc = some m := State.methodFound?_of_named h1 hy
  have h6 : Z.methodNamed? ⟨y.cls, y.name, y.desc⟩ = some m := h1
  have h7 : Z.vm.findClass y.cls = some m'.cls := by rw [← hz]; exact findClass_of_methodNamed g3
  simp only [Cond.before, Cond.holds, Cond.value, h5, h6, h7, hk]
  simp [hni]
theorem own_narb (x : Int32) : nar .byte x.toInt8.toInt32 = StrChars.lo8 x := by
  show x.toInt8.toInt32.toInt8.toInt32 = x.toInt8.toInt32
  simp
theorem own_toN {n : Nat} (h : n < 2147483648) : (Int32.ofNat n).toInt = n := by
  rw [Int32.toInt_ofNat_of_lt (by simpa using h)]
theorem own_clampN {n : Nat} (h : n < 2147483648) : (Int32.ofNat n).toNatClampNeg = n := by
  simp only [Int32.toNatClampNeg, own_toN h]; rfl
theorem own_nneg {n : Nat} (h : n < 2147483648) : ¬ Int32.ofNat n < 0 := by
  rw [Int32.lt_iff_toInt_lt, own_toN h]
  show ¬ (n : Int) < 0
  omega
theorem own_olt {a b : Nat} (h : a < b) (hb : b < 2147483648) : Int32.ofNat a < Int32.ofNat b := by
  rw [Int32.lt_iff_toInt_lt, own_toN (by omega), own_toN (by omega)]; omega
theorem own_onlt {a b : Nat} (h : b ≤ a) (hb : a < 2147483648) : ¬ Int32.ofNat a < Int32.ofNat b := by
  rw [Int32.lt_iff_toInt_lt, own_toN (by omega), own_toN (by omega)]; omega
theorem own_one {a b : Nat} (h : a ≠ b) (ha : a < 2147483648) (hb : b < 2147483648) : ¬ Int32.ofNat a = Int32.ofNat b := fun e => by
  have := congrArg Int32.toInt e
  rw [own_toN (by omega), own_toN (by omega)] at this; omega
theorem own_add (a b : Nat) : Int32.ofNat a + Int32.ofNat b = Int32.ofNat (a + b) := (Int32.ofNat_add a b).symm
theorem own_subn {a b : Nat} (h : b ≤ a) (ha : a < 2147483648) : Int32.ofNat a - Int32.ofNat b = Int32.ofNat (a - b) := by
  apply Int32.toInt_inj.mp
  rw [Int32.toInt_sub, own_toN ha, own_toN (by omega), own_toN (by omega), Int.bmod_eq_of_le (by omega) (by omega)]
  omega
theorem own_shr0 (x : Int32) : x >>> ((0 : Int32) &&& 31) = x := by
  rw [show ((0 : Int32) &&& 31) = 0 by decide]; simp
theorem own_shl0 (x : Int32) : x <<< ((0 : Int32) &&& 31) = x := by
  rw [show ((0 : Int32) &&& 31) = 0 by decide]; simp
theorem own_ns {a b : Nat} (h : a ≤ b) (hb : b < 2147483648) : ¬ (0 : Int32) < Int32.ofNat a - Int32.ofNat b := by
  rw [Int32.lt_iff_toInt_lt, Int32.toInt_sub, own_toN (by omega), own_toN (by omega), Int.bmod_eq_of_le (by omega) (by omega)]
  show ¬ (0 : Int) < _
  omega
theorem own_vl (cs : List Int32) : ((cs.map StrChars.lo8).map Value.int).length = cs.length := by simp
theorem own_la {cs ds : List Int32} {k n : Nat} (h1 : cs.length = k) (h2 : ds.length = n) : (cs ++ ds).length = k + n := by rw [List.length_append, h1, h2]
theorem own_us {cs : List Int32} {n : Nat} {d : Value} (h : cs.length = n) : ((cs.map StrChars.lo8).map Value.int) = (List.range n).map fun i => ((cs.map StrChars.lo8).map Value.int).getD (0 + i) d := by
  apply List.ext_getElem
  · simp [h]
  · intro i h1 h2
    simp at h1
    simp [h1]
theorem own_cpB {cs as : List Int32} {k n m : Nat} {d : Value} (hk : cs.length = k) (hn : as.length = n) : ∀ i, (((cs ++ as).map StrChars.lo8).map Value.int).getD i d = ((((cs.map StrChars.lo8).map Value.int) ++ List.replicate m d).take k ++ ((as.map StrChars.lo8).map Value.int) ++ (((cs.map StrChars.lo8).map Value.int) ++ List.replicate m d).drop (k + n)).getD i d := by
  intro i
  have e1 : (((cs.map StrChars.lo8).map Value.int) ++ List.replicate m d).take k = ((cs.map StrChars.lo8).map Value.int) := List.take_left' (by simp [hk])
  have e2 : (((cs.map StrChars.lo8).map Value.int) ++ List.replicate m d).drop (k + n) = List.replicate (m - n) d := by
    rw [← List.drop_drop, List.drop_left' (by simp [hk]), List.drop_replicate]
  rw [e1, e2, pad_rep]
  simp
theorem own_cpC {vs : List Value} {q c : Nat} {d : Value} (h : vs.length ≤ q) : ∀ i, vs.getD i d = ((List.replicate c d).take 0 ++ ((List.range q).map fun i => vs.getD (0 + i) d) ++ (List.replicate c d).drop (0 + q)).getD i d := by
  intro i
  rw [List.take_zero, List.nil_append, List.drop_replicate, pad_rep]
  simp only [List.getD_eq_getElem?_getD, List.getElem?_map, Nat.zero_add]
  by_cases hi : i < q
  · rw [List.getElem?_range hi]; rfl
  · rw [List.getElem?_eq_none (by omega), List.getElem?_eq_none (by simp; omega)]; rfl
section OwnCp
variable {p : Program} {l : Launch} {e : Env} {R : Room} {s : State} {m : MethodId} {args : Array Value} {below : List Frame} {meth : Method} {c : Code} {T : State} {locs : List Loc} {cells slots : Nat} {Z : State} {h : Heap} {a b : Addr}
theorem own_cpPut (X : Stand p l e R s m args below meth c T locs cells slots) (hx : p.tables.exec = Jvm.exec) (hZ : Z.Warmed39 s.vm) {a0 : Array Value} {own : String} {index : Nat} (hown : s.vm.findClass own = some m.cls)
    (w1 : (Cond.methodLink own index Jvm.Stand.acN).before a0 Z = true) (w2 : (Cond.native Jvm.Stand.acN).before a0 Z = true) (w3 : (Cond.static Jvm.Stand.acN).before a0 Z = true) (w4 : (Cond.initialized "java/lang/System").before a0 Z = true) (eT : T.heap = h)
    {ka kb : ClassId} {cs ds : List Int32} {k n q : Nat} (A : Arv Z h a ka .byte (Int32.ofNat n) ((ds.map StrChars.lo8).map Value.int) (.int 0)) (B : Arv Z h b kb .byte (Int32.ofNat q) ((cs.map StrChars.lo8).map Value.int) (.int 0)) (hk : cs.length = k) (hn : ds.length = n) (hq : k + n ≤ q) (hq' : q < 2147483648)
    {n0 : Nat} (N : Fr n0 locs) (ge : n0 ≤ b) {g : JFrame} (hg : g.method = m) (hsize : g.locals.size = c.maxLocals) {rest : List Value} (hs : g.stack = .int (Int32.ofNat n) :: .int (Int32.ofNat k) :: .ref b :: .int (Int32.ofNat 0) :: .ref a :: rest) (hd : decode c.code g.pc = .ok (.invokestatic index, 3))
    (hf : 1 ≤ R.frames) {W : Nat} (hW : 2 * g.monitorRoom + (rest.map fun v => v.category).sum ≤ W) (hlo : W + (nativeFrameWords "java/lang/System" "arraycopy" 5 + 11) ≤ R.locals) :
    ∃ T' h' L, Stand p l e R s m args below meth c T' L cells slots ∧ T'.heap = h' ∧ Fr n0 L ∧ Keep h h' [b] ∧ Arv Z h' b kb .byte (Int32.ofNat q) (((cs ++ ds).map StrChars.lo8).map Value.int) (.int 0) ∧
      ∀ target, Steps p.tables e below (T'.setTop { g with pc := g.pc + 3, stack := rest }) target → Steps p.tables e below (T.setTop g) target := by
  have c0 : (Int32.ofNat 0).toNatClampNeg = 0 := rfl
  have ck : (Int32.ofNat k).toNatClampNeg = k := own_clampN (by omega)
  have cn : (Int32.ofNat n).toNatClampNeg = n := own_clampN (by omega)
  have cq : (Int32.ofNat q).toNatClampNeg = q := own_clampN (by omega)
  obtain ⟨T', h', L, X', e', N', K', A', st⟩ := cpA X hx hZ hown w1 w2 w3 w4 eT A (B.pad (pad_rep _ _ (q - k))) (Or.inl ⟨rfl, rfl⟩) (sp := Int32.ofNat 0) (dp := Int32.ofNat k) (nn := Int32.ofNat n) (own_nneg (by omega)) (own_nneg (by omega)) (own_nneg (by omega))
    (by rw [c0, cn]; omega) (by rw [ck, cn, cq]; exact hq) (us := ((ds.map StrChars.lo8).map Value.int)) (by rw [c0, cn]; exact own_us hn) (by rw [ck, cn, List.length_append, own_vl, List.length_replicate]; omega) N ge hg hsize hs hd hf hW hlo
  refine ⟨T', h', L, X', e', N', K', ?_, st⟩
  rw [ck, cn] at A'
  exact A'.pad (own_cpB hk hn)
theorem own_cpNew (X : Stand p l e R s m args below meth c T locs cells slots) (hx : p.tables.exec = Jvm.exec) (hZ : Z.Warmed39 s.vm) {a0 : Array Value} {own : String} {index : Nat} (hown : s.vm.findClass own = some m.cls)
    (w1 : (Cond.methodLink own index Jvm.Stand.acN).before a0 Z = true) (w2 : (Cond.native Jvm.Stand.acN).before a0 Z = true) (w3 : (Cond.static Jvm.Stand.acN).before a0 Z = true) (w4 : (Cond.initialized "java/lang/System").before a0 Z = true) (eT : T.heap = h)
    {ka kb : ClassId} {vs : List Value} {q c1 c2 : Nat} (A : Arv Z h a ka .byte (Int32.ofNat c1) vs (.int 0)) (B : Arv Z h b kb .byte (Int32.ofNat c2) [] (.int 0)) (hv : vs.length ≤ q) (h1 : q ≤ c1) (h2 : q ≤ c2) (h1' : c1 < 2147483648) (h2' : c2 < 2147483648)
    {n0 : Nat} (N : Fr n0 locs) (ge : n0 ≤ b) {g : JFrame} (hg : g.method = m) (hsize : g.locals.size = c.maxLocals) {rest : List Value} (hs : g.stack = .int (Int32.ofNat q) :: .int (Int32.ofNat 0) :: .ref b :: .int (Int32.ofNat 0) :: .ref a :: rest) (hd : decode c.code g.pc = .ok (.invokestatic index, 3))
    (hf : 1 ≤ R.frames) {W : Nat} (hW : 2 * g.monitorRoom + (rest.map fun v => v.category).sum ≤ W) (hlo : W + (nativeFrameWords "java/lang/System" "arraycopy" 5 + 11) ≤ R.locals) :
    ∃ T' h' L, Stand p l e R s m args below meth c T' L cells slots ∧ T'.heap = h' ∧ Fr n0 L ∧ Keep h h' [b] ∧ Arv Z h' b kb .byte (Int32.ofNat c2) vs (.int 0) ∧
      ∀ target, Steps p.tables e below (T'.setTop { g with pc := g.pc + 3, stack := rest }) target → Steps p.tables e below (T.setTop g) target := by
  have c0 : (Int32.ofNat 0).toNatClampNeg = 0 := rfl
  have cq : (Int32.ofNat q).toNatClampNeg = q := own_clampN (by omega)
  have d1 : (Int32.ofNat c1).toNatClampNeg = c1 := own_clampN h1'
  have d2 : (Int32.ofNat c2).toNatClampNeg = c2 := own_clampN h2'
  obtain ⟨T', h', L, X', e', N', K', A', st⟩ := cpA X hx hZ hown w1 w2 w3 w4 eT A (B.pad (pad_rep [] _ c2)) (Or.inl ⟨rfl, rfl⟩) (sp := Int32.ofNat 0) (dp := Int32.ofNat 0) (nn := Int32.ofNat q) (own_nneg (by omega)) (own_nneg (by omega)) (own_nneg (by omega))
    (by rw [c0, cq, d1]; omega) (by rw [c0, cq, d2]; omega) (us := (List.range q).map fun i => vs.getD (0 + i) (.int 0)) (by rw [c0, cq]) (by rw [c0, cq, List.nil_append, List.length_replicate]; omega) N ge hg hsize hs hd hf hW hlo
  refine ⟨T', h', L, X', e', N', K', ?_, st⟩
  rw [c0, cq] at A'
  exact A'.pad (own_cpC hv)
end OwnCp
def own_U (ka sb : List Int32) : Prop := ka = sb ∨ (sb.length + 1 ≤ ka.length ∧ ∀ j, j < sb.length + 1 → ka.getD j 0 = (sb ++ [40]).getD j 0)
theorem own_lo8i {a b : Int32} (ha : ¬ a < 0 ∧ ¬ (255 : Int32) < a) (hb : ¬ b < 0 ∧ ¬ (255 : Int32) < b) (h : StrChars.lo8 a = StrChars.lo8 b) : a = b := by
  have z0 : (0 : Int32).toInt = 0 := by decide
  have z1 : (255 : Int32).toInt = 255 := by decide
  rw [Int32.lt_iff_toInt_lt, Int32.lt_iff_toInt_lt] at ha hb
  have q := congrArg Int32.toInt h
  simp only [StrChars.lo8, Int8.toInt_toInt32, Int32.toInt_toInt8] at q
  rw [← Int32.toInt_inj]
  simp only [Int.bmod] at q
  omega
theorem own_rgD {cs : List Int32} (rg : ∀ c ∈ cs, ¬ c < 0 ∧ ¬ (255 : Int32) < c) (j : Nat) : ¬ cs.getD j 0 < 0 ∧ ¬ (255 : Int32) < cs.getD j 0 := by
  rw [List.getD_eq_getElem?_getD]
  by_cases h : j < cs.length
  · rw [List.getElem?_eq_getElem h]; exact rg _ (List.getElem_mem h)
  · rw [List.getElem?_eq_none (by omega)]; decide
theorem own_Uc {ka sb : List Int32} {a m : Nat} (rx : ∀ c ∈ ka, ¬ c < 0 ∧ ¬ (255 : Int32) < c) (ry : ∀ c ∈ sb, ¬ c < 0 ∧ ¬ (255 : Int32) < c) (hne : ¬ ka = sb) (la : ka.length = a) (lb : sb.length = m) : own_U ka sb ↔ (0 + m + 1 ≤ a ∧ ∀ j, j < 0 + m + 1 → StrChars.lo8 (ka.getD j 0) = StrChars.lo8 ((([] ++ sb) ++ [40]).getD j 0)) := by
  have rz : ∀ c ∈ sb ++ [40], ¬ c < 0 ∧ ¬ (255 : Int32) < c := fun c hc => (List.mem_append.mp hc).elim (ry c) (fun h => by rw [List.mem_singleton.mp h]; decide)
  rw [List.nil_append, Nat.zero_add, ← la, ← lb]
  constructor
  · rintro (h | ⟨h1, h2⟩)
    · exact absurd h hne
    · exact ⟨h1, fun j hj => congrArg _ (h2 j hj)⟩
  · rintro ⟨h1, h2⟩
    exact Or.inr ⟨h1, fun j hj => own_lo8i (own_rgD rx j) (own_rgD rz j) (h2 j hj)⟩
theorem own_slt {a b : Nat} (ha : a < 1000000) (hb : b < 1000000) : (Int32.ofNat a - Int32.ofNat b < 0) ↔ a < b := by
  rw [Int32.lt_iff_toInt_lt, Int32.toInt_sub, own_toN (by omega), own_toN (by omega), Int.bmod_eq_of_le (by omega) (by omega)]
  have z : (0 : Int32).toInt = 0 := by decide
  omega
theorem own_vd {ds : List Int32} {j : Nat} {d : Value} (h : j < ds.length) : ((ds.map StrChars.lo8).map Value.int).getD j d = .int (StrChars.lo8 (ds.getD j 0)) := by
  simp [List.getD_eq_getElem?_getD, h]
theorem own_U_0_0  : own_U ([] : List Int32) ([] : List Int32) ↔ (True) := by
  constructor
  · rintro (h | ⟨h, _⟩)
    · exact trivial
    · exact absurd (show 1 ≤ 0 from h) (by decide)
  · rintro -
    exact Or.inl (by rfl)
theorem own_U_0_1 (s0 : Int32) : ¬ own_U ([] : List Int32) ([s0] : List Int32) := by
  rintro (h | ⟨h, _⟩)
  · exact absurd (congrArg List.length h) (by simp)
  · exact absurd (show 2 ≤ 0 from h) (by decide)
theorem own_U_0_2 (s0 s1 : Int32) : ¬ own_U ([] : List Int32) ([s0, s1] : List Int32) := by
  rintro (h | ⟨h, _⟩)
  · exact absurd (congrArg List.length h) (by simp)
  · exact absurd (show 3 ≤ 0 from h) (by decide)
theorem own_U_0_3 (s0 s1 s2 : Int32) : ¬ own_U ([] : List Int32) ([s0, s1, s2] : List Int32) := by
  rintro (h | ⟨h, _⟩)
  · exact absurd (congrArg List.length h) (by simp)
  · exact absurd (show 4 ≤ 0 from h) (by decide)
theorem own_U_1_0 (w0 : Int32) : own_U ([w0] : List Int32) ([] : List Int32) ↔ (w0 = (40 : Int32)) := by
  constructor
  · rintro (h | ⟨_, h⟩)
    · exact absurd (congrArg List.length h) (by simp)
    · exact h 0 (Nat.le_of_ble_eq_true rfl)
  · rintro h0
    refine Or.inr ⟨Nat.le_of_ble_eq_true rfl, fun j hj => ?_⟩
    match j, hj with
    | 0, _ => exact h0
    | j + 1, h => exact absurd (show j + 1 < 1 from h) (by omega)
theorem own_U_1_1 (w0 s0 : Int32) : own_U ([w0] : List Int32) ([s0] : List Int32) ↔ (w0 = s0) := by
  constructor
  · rintro (h | ⟨h, _⟩)
    · cases h; exact rfl
    · exact absurd (show 2 ≤ 1 from h) (by decide)
  · rintro h0
    exact Or.inl (by rw [h0])
theorem own_U_1_2 (w0 s0 s1 : Int32) : ¬ own_U ([w0] : List Int32) ([s0, s1] : List Int32) := by
  rintro (h | ⟨h, _⟩)
  · exact absurd (congrArg List.length h) (by simp)
  · exact absurd (show 3 ≤ 1 from h) (by decide)
theorem own_U_1_3 (w0 s0 s1 s2 : Int32) : ¬ own_U ([w0] : List Int32) ([s0, s1, s2] : List Int32) := by
  rintro (h | ⟨h, _⟩)
  · exact absurd (congrArg List.length h) (by simp)
  · exact absurd (show 4 ≤ 1 from h) (by decide)
theorem own_U_2_0 (w0 w1 : Int32) : own_U ([w0, w1] : List Int32) ([] : List Int32) ↔ (w0 = (40 : Int32)) := by
  constructor
  · rintro (h | ⟨_, h⟩)
    · exact absurd (congrArg List.length h) (by simp)
    · exact h 0 (Nat.le_of_ble_eq_true rfl)
  · rintro h0
    refine Or.inr ⟨Nat.le_of_ble_eq_true rfl, fun j hj => ?_⟩
    match j, hj with
    | 0, _ => exact h0
    | j + 1, h => exact absurd (show j + 1 < 1 from h) (by omega)
theorem own_U_2_1 (w0 w1 s0 : Int32) : own_U ([w0, w1] : List Int32) ([s0] : List Int32) ↔ (w0 = s0 ∧ w1 = (40 : Int32)) := by
  constructor
  · rintro (h | ⟨_, h⟩)
    · exact absurd (congrArg List.length h) (by simp)
    · exact ⟨h 0 (Nat.le_of_ble_eq_true rfl), h 1 (Nat.le_of_ble_eq_true rfl)⟩
  · rintro ⟨h0, h1⟩
    refine Or.inr ⟨Nat.le_of_ble_eq_true rfl, fun j hj => ?_⟩
    match j, hj with
    | 0, _ => exact h0
    | 1, _ => exact h1
    | j + 2, h => exact absurd (show j + 2 < 2 from h) (by omega)
theorem own_U_2_2 (w0 w1 s0 s1 : Int32) : own_U ([w0, w1] : List Int32) ([s0, s1] : List Int32) ↔ (w0 = s0 ∧ w1 = s1) := by
  constructor
  · rintro (h | ⟨h, _⟩)
    · cases h; exact ⟨rfl, rfl⟩
    · exact absurd (show 3 ≤ 2 from h) (by decide)
  · rintro ⟨h0, h1⟩
    exact Or.inl (by rw [h0, h1])
theorem own_U_2_3 (w0 w1 s0 s1 s2 : Int32) : ¬ own_U ([w0, w1] : List Int32) ([s0, s1, s2] : List Int32) := by
  rintro (h | ⟨h, _⟩)
  · exact absurd (congrArg List.length h) (by simp)
  · exact absurd (show 4 ≤ 2 from h) (by decide)
theorem own_U_3_0 (w0 w1 w2 : Int32) : own_U ([w0, w1, w2] : List Int32) ([] : List Int32) ↔ (w0 = (40 : Int32)) := by
  constructor
  · rintro (h | ⟨_, h⟩)
    · exact absurd (congrArg List.length h) (by simp)
    · exact h 0 (Nat.le_of_ble_eq_true rfl)
  · rintro h0
    refine Or.inr ⟨Nat.le_of_ble_eq_true rfl, fun j hj => ?_⟩
    match j, hj with
    | 0, _ => exact h0
    | j + 1, h => exact absurd (show j + 1 < 1 from h) (by omega)
theorem own_U_3_1 (w0 w1 w2 s0 : Int32) : own_U ([w0, w1, w2] : List Int32) ([s0] : List Int32) ↔ (w0 = s0 ∧ w1 = (40 : Int32)) := by
  constructor
  · rintro (h | ⟨_, h⟩)
    · exact absurd (congrArg List.length h) (by simp)
    · exact ⟨h 0 (Nat.le_of_ble_eq_true rfl), h 1 (Nat.le_of_ble_eq_true rfl)⟩
  · rintro ⟨h0, h1⟩
    refine Or.inr ⟨Nat.le_of_ble_eq_true rfl, fun j hj => ?_⟩
    match j, hj with
    | 0, _ => exact h0
    | 1, _ => exact h1
    | j + 2, h => exact absurd (show j + 2 < 2 from h) (by omega)
theorem own_U_3_2 (w0 w1 w2 s0 s1 : Int32) : own_U ([w0, w1, w2] : List Int32) ([s0, s1] : List Int32) ↔ (w0 = s0 ∧ w1 = s1 ∧ w2 = (40 : Int32)) := by
  constructor
  · rintro (h | ⟨_, h⟩)
    · exact absurd (congrArg List.length h) (by simp)
    · exact ⟨h 0 (Nat.le_of_ble_eq_true rfl), h 1 (Nat.le_of_ble_eq_true rfl), h 2 (Nat.le_of_ble_eq_true rfl)⟩
  · rintro ⟨h0, h1, h2⟩
    refine Or.inr ⟨Nat.le_of_ble_eq_true rfl, fun j hj => ?_⟩
    match j, hj with
    | 0, _ => exact h0
    | 1, _ => exact h1
    | 2, _ => exact h2
    | j + 3, h => exact absurd (show j + 3 < 3 from h) (by omega)
theorem own_U_3_3 (w0 w1 w2 s0 s1 s2 : Int32) : own_U ([w0, w1, w2] : List Int32) ([s0, s1, s2] : List Int32) ↔ (w0 = s0 ∧ w1 = s1 ∧ w2 = s2) := by
  constructor
  · rintro (h | ⟨h, _⟩)
    · cases h; exact ⟨rfl, rfl, rfl⟩
    · exact absurd (show 4 ≤ 3 from h) (by decide)
  · rintro ⟨h0, h1, h2⟩
    exact Or.inl (by rw [h0, h1, h2])
theorem own_U_4_0 (w0 w1 w2 w3 : Int32) : own_U ([w0, w1, w2, w3] : List Int32) ([] : List Int32) ↔ (w0 = (40 : Int32)) := by
  constructor
  · rintro (h | ⟨_, h⟩)
    · exact absurd (congrArg List.length h) (by simp)
    · exact h 0 (Nat.le_of_ble_eq_true rfl)
  · rintro h0
    refine Or.inr ⟨Nat.le_of_ble_eq_true rfl, fun j hj => ?_⟩
    match j, hj with
    | 0, _ => exact h0
    | j + 1, h => exact absurd (show j + 1 < 1 from h) (by omega)
theorem own_U_4_1 (w0 w1 w2 w3 s0 : Int32) : own_U ([w0, w1, w2, w3] : List Int32) ([s0] : List Int32) ↔ (w0 = s0 ∧ w1 = (40 : Int32)) := by
  constructor
  · rintro (h | ⟨_, h⟩)
    · exact absurd (congrArg List.length h) (by simp)
    · exact ⟨h 0 (Nat.le_of_ble_eq_true rfl), h 1 (Nat.le_of_ble_eq_true rfl)⟩
  · rintro ⟨h0, h1⟩
    refine Or.inr ⟨Nat.le_of_ble_eq_true rfl, fun j hj => ?_⟩
    match j, hj with
    | 0, _ => exact h0
    | 1, _ => exact h1
    | j + 2, h => exact absurd (show j + 2 < 2 from h) (by omega)
theorem own_U_4_2 (w0 w1 w2 w3 s0 s1 : Int32) : own_U ([w0, w1, w2, w3] : List Int32) ([s0, s1] : List Int32) ↔ (w0 = s0 ∧ w1 = s1 ∧ w2 = (40 : Int32)) := by
  constructor
  · rintro (h | ⟨_, h⟩)
    · exact absurd (congrArg List.length h) (by simp)
    · exact ⟨h 0 (Nat.le_of_ble_eq_true rfl), h 1 (Nat.le_of_ble_eq_true rfl), h 2 (Nat.le_of_ble_eq_true rfl)⟩
  · rintro ⟨h0, h1, h2⟩
    refine Or.inr ⟨Nat.le_of_ble_eq_true rfl, fun j hj => ?_⟩
    match j, hj with
    | 0, _ => exact h0
    | 1, _ => exact h1
    | 2, _ => exact h2
    | j + 3, h => exact absurd (show j + 3 < 3 from h) (by omega)
theorem own_U_4_3 (w0 w1 w2 w3 s0 s1 s2 : Int32) : own_U ([w0, w1, w2, w3] : List Int32) ([s0, s1, s2] : List Int32) ↔ (w0 = s0 ∧ w1 = s1 ∧ w2 = s2 ∧ w3 = (40 : Int32)) := by
  constructor
  · rintro (h | ⟨_, h⟩)
    · exact absurd (congrArg List.length h) (by simp)
    · exact ⟨h 0 (Nat.le_of_ble_eq_true rfl), h 1 (Nat.le_of_ble_eq_true rfl), h 2 (Nat.le_of_ble_eq_true rfl), h 3 (Nat.le_of_ble_eq_true rfl)⟩
  · rintro ⟨h0, h1, h2, h3⟩
    refine Or.inr ⟨Nat.le_of_ble_eq_true rfl, fun j hj => ?_⟩
    match j, hj with
    | 0, _ => exact h0
    | 1, _ => exact h1
    | 2, _ => exact h2
    | 3, _ => exact h3
    | j + 4, h => exact absurd (show j + 4 < 4 from h) (by omega)
theorem own_wV {Z : State} {a0 : Array Value} (hw : ∀ d ∈ tables_1, d.before a0 Z = true) : ∀ d ∈ StrChars.Road.words, d.before a0 Z = true := by
  intro d hd
  simp only [StrChars.Road.words, List.mem_cons, List.not_mem_nil, or_false] at hd
  rcases hd with rfl | rfl | rfl | rfl | rfl | rfl | rfl | rfl | rfl | rfl | rfl | rfl | rfl | rfl | rfl | rfl | rfl | rfl | rfl | rfl | rfl | rfl | rfl | rfl
  · exact (ow hw 10 rfl)
  · exact (ow hw 6 rfl)
  · exact (ow hw 11 rfl)
  · exact (ow hw 12 rfl)
  · exact (ow hw 14 rfl)
  · exact (ow hw 36 rfl)
  · exact (ow hw 20 rfl)
  · exact (ow hw 24 rfl)
  · exact (ow hw 21 rfl)
  · exact (ow hw 25 rfl)
  · exact (ow hw 15 rfl)
  · exact (ow hw 16 rfl)
  · exact (ow hw 17 rfl)
  · exact (ow hw 41 rfl)
  · exact (ow hw 42 rfl)
  · exact (ow hw 48 rfl)
  · exact (ow hw 49 rfl)
  · exact (ow hw 44 rfl)
  · exact (ow hw 43 rfl)
  · exact (ow hw 19 rfl)
  · exact (ow hw 45 rfl)
  · exact (ow hw 46 rfl)
  · exact (ow hw 47 rfl)
  · exact (ow hw 50 rfl)
theorem own_wE {Z : State} {a0 : Array Value} (hw : ∀ d ∈ tables_1, d.before a0 Z = true) : ∀ d ∈ StrChars.Road.wordsEq, d.before a0 Z = true := by
  intro d hd
  simp only [StrChars.Road.wordsEq, List.mem_cons, List.not_mem_nil, or_false] at hd
  rcases hd with rfl | rfl | rfl | rfl | rfl | rfl | rfl | rfl | rfl | rfl
  · exact (ow hw 34 rfl)
  · exact (ow hw 6 rfl)
  · exact (ow hw 35 rfl)
  · exact (ow hw 36 rfl)
  · exact (ow hw 25 rfl)
  · exact (ow hw 24 rfl)
  · exact (ow hw 37 rfl)
  · exact (ow hw 38 rfl)
  · exact (ow hw 40 rfl)
  · exact (ow hw 39 rfl)
theorem pn_0 : plainName "java/lang/AbstractStringBuilder" = true := by first | (simp [plainName, overriddenIn]; done) | decide +kernel
theorem dB12 : oL jdk_68_method_2_code [(0, .aload_n 0, 1), (1, .invokespecial 3, 3), (4, .getstatic 18, 3), (7, .ifCond .eq 18, 3), (10, .aload_n 0, 1), (11, .iload_n 1, 1), (12, .newarray .byte, 2), (14, .putfield 15, 3), (17, .aload_n 0, 1), (18, .iconst 0, 1), (19, .putfield 22, 3), (22, .goto 16, 3), (25, .aload_n 0, 1), (26, .iload_n 1, 1), (27, .invokestatic 26, 3), (30, .putfield 15, 3), (33, .aload_n 0, 1), (34, .iconst 1, 1), (35, .putfield 22, 3), (38, .return_, 1)] := by unfold oL; decide +kernel
theorem ef_rm12 (m : MethodId) (x0 : Addr) (x1 : Int32) : entryFrame m #[(.ref x0), (.int x1)] 2 = mkF m 0 #[.val (.ref x0), .val (.int x1)] [] := by first | (simp [entryFrame, mkF, argsToLocals, Value.category]; done) | rfl
def Q12 (Z : State) (b : Addr) (z : Int32) (h0 : Heap) (n0 : Nat) (v : Option Value) (h : Heap) (L : List Loc) : Prop := ∃ (tb : Addr) (kt : ClassId), v = none ∧ Fr n0 L ∧ Keep h0 h [b] ∧ n0 ≤ tb ∧ h0.size ≤ tb ∧ Exa Z h b "java/lang/StringBuilder" ∧ Fld Z h b "java/lang/AbstractStringBuilder" "value" "[B" (.ref tb) ∧ Fld Z h b "java/lang/AbstractStringBuilder" "count" "I" (.int (0 : Int32)) ∧ Fld Z h b "java/lang/AbstractStringBuilder" "coder" "B" (.int (0 : Int32)) ∧ Arv Z h tb kt .byte (16 : Int32) [(.int (0 : Int32)), (.int (0 : Int32)), (.int (0 : Int32)), (.int (0 : Int32)), (.int (0 : Int32)), (.int (0 : Int32)), (.int (0 : Int32)), (.int (0 : Int32)), (.int (0 : Int32)), (.int (0 : Int32)), (.int (0 : Int32)), (.int (0 : Int32)), (.int (0 : Int32)), (.int (0 : Int32)), (.int (0 : Int32)), (.int (0 : Int32))] (.int 0)
set_option maxRecDepth 65536 in
set_option maxHeartbeats 40000000 in
theorem rm12 (l : Launch) (Z : State) (a0 : Array Value) (hw : ∀ d ∈ tables_1, d.before a0 Z = true) (ws : List Jvm.Cond) (b : Addr) (z : Int32) (h0 : Heap) (n0 : Nat) (Z0 : n0 ≤ h0.size) (hz : ¬ z = (0 : Int32)) (O : Old Z n0 h0) (SC : Sta Z Z.heap "java/lang/String" "COMPACT_STRINGS" "Z" (.int z)) (E : Exa Z h0 b "java/lang/StringBuilder") (F0 : Fld Z h0 b "java/lang/AbstractStringBuilder" "value" "[B" .null) (F1 : Fld Z h0 b "java/lang/AbstractStringBuilder" "count" "I" (.int (0 : Int32))) (F2 : Fld Z h0 b "java/lang/AbstractStringBuilder" "coder" "B" (.int (0 : Int32))) (gb : n0 ≤ b) :
    own_M l (⟨"java/lang/AbstractStringBuilder", "<init>", "(I)V"⟩ : MethodName) jdk_68_method_2_code 2 none ws ({ frames := 1, cells := 1, slots := 16, locals := 12 } : Room) #[(.ref b), (.int (16 : Int32))] Z h0 (Q12 Z b z h0 n0) := by
  refine MetFree.of_bodySF (plainFor_of_name pn_0) hisR ?_
  intro p e s m args below meth cd s₁ Bd hml hP hK
  obtain ⟨rfl, hZ, hh⟩ := hP
  obtain ⟨X0, e0, H, hlk, hown, hret⟩ := own_start (R := ({ frames := 1, cells := 1, slots := 16, locals := 12 } : Room)) Bd hh rfl
  have hx := H.1; have hby := H.2; have N0 := Fr.nil n0
  show own_Fin p e below (own_Ans s (Q12 Z b z h0 n0) ({ frames := 1, cells := 1, slots := 16, locals := 12 } : Room).cells ({ frames := 1, cells := 1, slots := 16, locals := 12 } : Room).slots) (s₁.setTop (entryFrame m #[(.ref b), (.int (16 : Int32))] 2))
  refine own_cast (ef_rm12 m b (16 : Int32)) ?_
  show own_Fin p e below _ (s₁.setTop (mkF m 0 #[.val (.ref b), .val (.int (16 : Int32))] []))
  refine o_aldN X0 H (od dB12 0 rfl) rfl rfl ?_
  obtain ⟨T1, X1, e1, st1⟩ := initO X0 hx hZ hown (ow hw 63 rfl) (ow hw 16 rfl) (ow hw 17 rfl) e0 (g := (mkF m 1 #[.val (.ref b), .val (.int (16 : Int32))] [(.ref b)])) rfl (by rw [hml]; rfl) rfl (hb hby (od dB12 1 rfl)) (by decide) (W := 0) (by show 2 * 0 + _ ≤ _; exact Nat.le_of_eq rfl) (by decide)
  refine own_on st1 ?_
  show own_Fin p e below _ (T1.setTop (mkF m 4 #[.val (.ref b), .val (.int (16 : Int32))] []))
  refine o_gs X1 H hZ hown (ow hw 64 rfl) Via.refl e1 (SC.ext O.2) (od dB12 2 rfl) fun T2 X2 e2 => ?_
  refine o_ifN X2 H (od dB12 3 rfl) ((if0 _ _).trans (feq hz).1) ?_
  refine o_aldN X2 H (od dB12 4 rfl) rfl rfl ?_
  refine o_ildN X2 H (od dB12 5 rfl) rfl ?_
  obtain ⟨T3, h3, k3, X3, e3, E3, A3, st3⟩ := newP X2 hx hZ (ow hw 19 rfl) e2 (g := (mkF m 12 #[.val (.ref b), .val (.int (16 : Int32))] [(.int (16 : Int32)), (.ref b)])) rfl (hb hby (od dB12 6 rfl)) rfl (by decide) (cap := 16) (by decide) (by decide) (by decide) (by decide)
  obtain ⟨b3, g3⟩ : ∃ z, z = h0.size := ⟨_, rfl⟩
  rw [← g3] at A3 st3
  have ne3_b : b ≠ b3 := own_ne_of (Z := Z) E.lt g3
  have gn3 : n0 ≤ b3 := Nat.le_trans Z0 (Nat.le_of_eq g3.symm)
  have gk3 : h0.size ≤ b3 := Nat.le_trans (Keep.refl h0 [b]).1 (Nat.le_of_eq g3.symm)
  have V3 : Arv Z h3 b3 k3 .byte (16 : Int32) [(.int (0 : Int32)), (.int (0 : Int32)), (.int (0 : Int32)), (.int (0 : Int32)), (.int (0 : Int32)), (.int (0 : Int32)), (.int (0 : Int32)), (.int (0 : Int32)), (.int (0 : Int32)), (.int (0 : Int32)), (.int (0 : Int32)), (.int (0 : Int32)), (.int (0 : Int32)), (.int (0 : Int32)), (.int (0 : Int32)), (.int (0 : Int32))] (.int (0 : Int32)) := (Arv.new A3 (by decide)).pad (pad_rep [] (.int (0 : Int32)) 16)
  refine own_on st3 ?_
  show own_Fin p e below _ (T3.setTop (mkF m 14 #[.val (.ref b), .val (.int (16 : Int32))] [(.ref b3), (.ref b)]))
  obtain ⟨T4, h4, X4, e4, W4, st4⟩ := putF X3 hx hZ hown (host := "") (Or.inl (ow hw 65 rfl)) Via.refl e3 (F0.ext E3) (E.ext E3) (Or.inl (ow hw 66 rfl)) (ow hw 52 rfl) (ty := (.array .byte)) (by decide) rfl rfl (g := (mkF m 14 #[.val (.ref b), .val (.int (16 : Int32))] [(.ref b3), (.ref b)])) rfl rfl (hb hby (od dB12 7 rfl))
  have N4 := Fr.snoc X4 N0 gb
  have y5 := ((F1.ext E3).other W4 (Or.inr (slot_ne (Or.inl (ow hw 90 rfl)) (Or.inl (ow hw 66 rfl)) (by decide) (t := .int) (t' := (.array .byte)) (by decide) (by decide))))
  have y6 := ((F2.ext E3).other W4 (Or.inr (slot_ne (Or.inl (ow hw 68 rfl)) (Or.inl (ow hw 66 rfl)) (by decide) (t := .byte) (t' := (.array .byte)) (by decide) (by decide))))
  refine own_on st4 ?_
  show own_Fin p e below _ (T4.setTop (mkF m 17 #[.val (.ref b), .val (.int (16 : Int32))] []))
  refine o_aldN X4 H (od dB12 8 rfl) rfl rfl ?_
  refine o_ic X4 H (od dB12 9 rfl) (v := 0) rfl ?_
  obtain ⟨T7, h7, X7, e7, W7, st7⟩ := putFN X4 hx hZ hown (ow hw 67 rfl) Via.refl e4 y6 ((E.ext E3).wr W4) (Or.inl (ow hw 68 rfl)) (ow hw 52 rfl) (ty := .byte) (v' := (.int (0 : Int32))) (by decide) rfl (by decide) (g := (mkF m 19 #[.val (.ref b), .val (.int (16 : Int32))] [(.int (0 : Int32)), (.ref b)])) rfl rfl (hb hby (od dB12 10 rfl))
  have N7 := Fr.snoc X7 N4 gb
  have y8 := ((((Keep.refl h0 [b]).ext E3).wr W4 (Or.inl (List.mem_of_getElem? (i := 0) rfl))).wr W7 (Or.inl (List.mem_of_getElem? (i := 0) rfl)))
  have y9 := (((F0.ext E3).same W4).other W7 (Or.inr (slot_ne (Or.inl (ow hw 66 rfl)) (Or.inl (ow hw 68 rfl)) (by decide) (t := (.array .byte)) (t' := .byte) (by decide) (by decide))))
  have y10 := (y5.other W7 (Or.inr (slot_ne (Or.inl (ow hw 90 rfl)) (Or.inl (ow hw 68 rfl)) (by decide) (t := .int) (t' := .byte) (by decide) (by decide))))
  refine own_on st7 ?_
  show own_Fin p e below _ (T7.setTop (mkF m 22 #[.val (.ref b), .val (.int (16 : Int32))] []))
  refine o_go X7 H (od dB12 11 rfl) (pc' := 38) (by decide) (by decide) ?_
  exact own_retV X7 hx hlk hret (hb hby (od dB12 19 rfl)) (by show Q12 Z b z h0 n0 _ T7.heap _; rw [e7]; exact ⟨b3, k3, rfl, N7, y8, gn3, gk3, (((E.ext E3).wr W4).wr W7), y9, y10, (y6.same W7), ((V3.other W4 (Ne.symm ne3_b)).other W7 (Ne.symm ne3_b))⟩) (by decide) (by decide)
theorem pn_1 : plainName "java/lang/StringBuilder" = true := by first | (simp [plainName, overriddenIn]; done) | decide +kernel
theorem dB11 : oL jdk_67_method_1_code [(0, .aload_n 0, 1), (1, .bipush 16, 2), (3, .invokespecial 1, 3), (6, .return_, 1)] := by unfold oL; decide +kernel
theorem pd_0 : parseMethodDescriptor "(I)V" = some ⟨[.int], none⟩ := by decide +kernel
theorem ef_rm11 (m : MethodId) (x0 : Addr) : entryFrame m #[(.ref x0)] 1 = mkF m 0 #[.val (.ref x0)] [] := by first | (simp [entryFrame, mkF, argsToLocals, Value.category]; done) | rfl
def Q11 (Z : State) (b : Addr) (z : Int32) (h0 : Heap) (n0 : Nat) (v : Option Value) (h : Heap) (L : List Loc) : Prop := ∃ (tb : Addr) (kt : ClassId), v = none ∧ Fr n0 L ∧ Keep h0 h [b] ∧ n0 ≤ tb ∧ h0.size ≤ tb ∧ Exa Z h b "java/lang/StringBuilder" ∧ Fld Z h b "java/lang/AbstractStringBuilder" "value" "[B" (.ref tb) ∧ Fld Z h b "java/lang/AbstractStringBuilder" "count" "I" (.int (0 : Int32)) ∧ Fld Z h b "java/lang/AbstractStringBuilder" "coder" "B" (.int (0 : Int32)) ∧ Arv Z h tb kt .byte (16 : Int32) [(.int (0 : Int32)), (.int (0 : Int32)), (.int (0 : Int32)), (.int (0 : Int32)), (.int (0 : Int32)), (.int (0 : Int32)), (.int (0 : Int32)), (.int (0 : Int32)), (.int (0 : Int32)), (.int (0 : Int32)), (.int (0 : Int32)), (.int (0 : Int32)), (.int (0 : Int32)), (.int (0 : Int32)), (.int (0 : Int32)), (.int (0 : Int32))] (.int 0)
set_option maxRecDepth 65536 in
set_option maxHeartbeats 40000000 in
theorem rm11 (l : Launch) (Z : State) (a0 : Array Value) (hw : ∀ d ∈ tables_1, d.before a0 Z = true) (ws : List Jvm.Cond) (b : Addr) (z : Int32) (h0 : Heap) (n0 : Nat) (Z0 : n0 ≤ h0.size) (hz : ¬ z = (0 : Int32)) (O : Old Z n0 h0) (SC : Sta Z Z.heap "java/lang/String" "COMPACT_STRINGS" "Z" (.int z)) (E : Exa Z h0 b "java/lang/StringBuilder") (F0 : Fld Z h0 b "java/lang/AbstractStringBuilder" "value" "[B" .null) (F1 : Fld Z h0 b "java/lang/AbstractStringBuilder" "count" "I" (.int (0 : Int32))) (F2 : Fld Z h0 b "java/lang/AbstractStringBuilder" "coder" "B" (.int (0 : Int32))) (gb : n0 ≤ b) :
    own_M l (⟨"java/lang/StringBuilder", "<init>", "()V"⟩ : MethodName) jdk_67_method_1_code 1 none ws ({ frames := 2, cells := 1, slots := 16, locals := 25 } : Room) #[(.ref b)] Z h0 (Q11 Z b z h0 n0) := by
  refine MetFree.of_bodySF (plainFor_of_name pn_1) hisR ?_
  intro p e s m args below meth cd s₁ Bd hml hP hK
  obtain ⟨rfl, hZ, hh⟩ := hP
  obtain ⟨X0, e0, H, hlk, hown, hret⟩ := own_start (R := ({ frames := 2, cells := 1, slots := 16, locals := 25 } : Room)) Bd hh rfl
  have hx := H.1; have hby := H.2; have N0 := Fr.nil n0
  show own_Fin p e below (own_Ans s (Q11 Z b z h0 n0) ({ frames := 2, cells := 1, slots := 16, locals := 25 } : Room).cells ({ frames := 2, cells := 1, slots := 16, locals := 25 } : Room).slots) (s₁.setTop (entryFrame m #[(.ref b)] 1))
  refine own_cast (ef_rm11 m b) ?_
  show own_Fin p e below _ (s₁.setTop (mkF m 0 #[.val (.ref b)] []))
  refine o_aldN X0 H (od dB11 0 rfl) rfl rfl ?_
  refine o_bi X0 H (od dB11 1 rfl) (v := 16) rfl ?_
  refine o_sc (b := b) (argsL := [(.int (16 : Int32))]) (rest := []) X0 H hml hZ hown (ow hw 57 rfl) (ow hw 58 rfl) (ow hw 62 rfl) (backOf (W := 0) (rm12 l Z a0 hw [] b z h0 n0 (by exact Z0) hz O SC E F0 F1 F2 gb) hZ (ow hw 62 rfl) (ow hw 61 rfl) (by decide) (by decide)) rfl (by decide) e0 pd_0 (od dB11 2 rfl) rfl rfl rfl rfl rfl (by decide) (by decide) fun _ T11 Lc11 X11 hQ11 => ?_
  obtain ⟨tb11, kt11, rfl, N11q, K11, gt11, gk11, Eq11, Vq11, Cq11, Dq11, Aq11⟩ := hQ11
  have ne11_b : b ≠ tb11 := Nat.ne_of_lt (Nat.lt_of_lt_of_le E.lt gk11)
  have N11 := Fr.app N0 N11q
  show own_Fin p e below _ (T11.setTop (mkF m 6 #[.val (.ref b)] []))
  exact own_retV X11 hx hlk hret (hb hby (od dB11 3 rfl)) (by show Q11 Z b z h0 n0 _ T11.heap _; exact ⟨tb11, kt11, rfl, N11, ((Keep.refl h0 [b]).trans K11 (allS (Or.inl (List.mem_of_getElem? (i := 0) rfl)) all0)), gt11, (Nat.le_trans (Keep.refl h0 [b]).1 gk11), Eq11, Vq11, Cq11, Dq11, Aq11⟩) (by decide) (by decide)
theorem dB27 : oL jdk_68_method_68_code [(0, .getstatic 18, 3), (3, .ifCond .eq 14, 3), (6, .aload_n 0, 1), (7, .getfield 22, 3), (10, .ifCond .ne 7, 3), (13, .iconst 1, 1), (14, .goto 4, 3), (17, .iconst 0, 1), (18, .ireturn, 1)] := by unfold oL; decide +kernel
theorem ef_rm27 (m : MethodId) (x0 : Addr) : entryFrame m #[(.ref x0)] 1 = mkF m 0 #[.val (.ref x0)] [] := by first | (simp [entryFrame, mkF, argsToLocals, Value.category]; done) | rfl
def Q27 (Z : State) (b : Addr) (z : Int32) (h0 : Heap) (n0 : Nat) (v : Option Value) (h : Heap) (L : List Loc) : Prop := v = some (.int (1 : Int32)) ∧ Fr n0 L ∧ h = h0
set_option maxRecDepth 65536 in
set_option maxHeartbeats 40000000 in
theorem rm27 (l : Launch) (Z : State) (a0 : Array Value) (hw : ∀ d ∈ tables_1, d.before a0 Z = true) (ws : List Jvm.Cond) (b : Addr) (z : Int32) (h0 : Heap) (n0 : Nat) (Z0 : n0 ≤ h0.size) (hz : ¬ z = (0 : Int32)) (O : Old Z n0 h0) (SC : Sta Z Z.heap "java/lang/String" "COMPACT_STRINGS" "Z" (.int z)) (F : Fld Z h0 b "java/lang/AbstractStringBuilder" "coder" "B" (.int (0 : Int32))) :
    own_M l (⟨"java/lang/AbstractStringBuilder", "isLatin1", "()Z"⟩ : MethodName) jdk_68_method_68_code 1 (some .boolean) ws ({ frames := 0, cells := 0, slots := 0, locals := 0 } : Room) #[(.ref b)] Z h0 (Q27 Z b z h0 n0) := by
  refine MetFree.of_bodySF (plainFor_of_name pn_0) hisR ?_
  intro p e s m args below meth cd s₁ Bd hml hP hK
  obtain ⟨rfl, hZ, hh⟩ := hP
  obtain ⟨X0, e0, H, hlk, hown, hret⟩ := own_start (R := ({ frames := 0, cells := 0, slots := 0, locals := 0 } : Room)) Bd hh rfl
  have hx := H.1; have hby := H.2; have N0 := Fr.nil n0
  show own_Fin p e below (own_Ans s (Q27 Z b z h0 n0) ({ frames := 0, cells := 0, slots := 0, locals := 0 } : Room).cells ({ frames := 0, cells := 0, slots := 0, locals := 0 } : Room).slots) (s₁.setTop (entryFrame m #[(.ref b)] 1))
  refine own_cast (ef_rm27 m b) ?_
  show own_Fin p e below _ (s₁.setTop (mkF m 0 #[.val (.ref b)] []))
  refine o_gs X0 H hZ hown (ow hw 64 rfl) Via.refl e0 (SC.ext O.2) (od dB27 0 rfl) fun T12 X12 e12 => ?_
  refine o_ifN X12 H (od dB27 1 rfl) ((if0 _ _).trans (feq hz).1) ?_
  refine o_aldN X12 H (od dB27 2 rfl) rfl rfl ?_
  refine o_gf X12 H hZ hown (ow hw 67 rfl) Via.refl e12 F (od dB27 3 rfl) fun T13 X13 e13 => ?_
  refine o_ifN X13 H (od dB27 4 rfl) ((if0 _ _).trans (teq (by decide : (0 : Int32) = (0 : Int32))).2) ?_
  refine o_ic X13 H (od dB27 5 rfl) (v := 1) rfl ?_
  refine o_go X13 H (od dB27 6 rfl) (pc' := 18) (by decide) (by decide) ?_
  exact own_ret (t := .boolean) X13 hx hlk hret rfl (Or.inl ⟨rfl, (by simp), _, rfl⟩) (hb hby (od dB27 8 rfl)) (⟨rfl, N0, e13⟩) (by decide) (by decide)
theorem dB24 : oL jdk_68_method_64_code [(0, .aload_n 0, 1), (1, .getfield 15, 3), (4, .areturn, 1)] := by unfold oL; decide +kernel
theorem ef_rm24 (m : MethodId) (x0 : Addr) : entryFrame m #[(.ref x0)] 1 = mkF m 0 #[.val (.ref x0)] [] := by first | (simp [entryFrame, mkF, argsToLocals, Value.category]; done) | rfl
def Q24 (Z : State) (b : Addr) (tb : Addr) (h0 : Heap) (n0 : Nat) (v : Option Value) (h : Heap) (L : List Loc) : Prop := v = some (.ref tb) ∧ Fr n0 L ∧ h = h0
set_option maxRecDepth 65536 in
set_option maxHeartbeats 40000000 in
theorem rm24 (l : Launch) (Z : State) (a0 : Array Value) (hw : ∀ d ∈ tables_1, d.before a0 Z = true) (ws : List Jvm.Cond) (b : Addr) (tb : Addr) (h0 : Heap) (n0 : Nat) (Z0 : n0 ≤ h0.size) (F : Fld Z h0 b "java/lang/AbstractStringBuilder" "value" "[B" (.ref tb)) :
    own_M l (⟨"java/lang/AbstractStringBuilder", "getValue", "()[B"⟩ : MethodName) jdk_68_method_64_code 1 (some (.array .byte)) ws ({ frames := 0, cells := 0, slots := 0, locals := 0 } : Room) #[(.ref b)] Z h0 (Q24 Z b tb h0 n0) := by
  refine MetFree.of_bodySF (plainFor_of_name pn_0) hisR ?_
  intro p e s m args below meth cd s₁ Bd hml hP hK
  obtain ⟨rfl, hZ, hh⟩ := hP
  obtain ⟨X0, e0, H, hlk, hown, hret⟩ := own_start (R := ({ frames := 0, cells := 0, slots := 0, locals := 0 } : Room)) Bd hh rfl
  have hx := H.1; have hby := H.2; have N0 := Fr.nil n0
  show own_Fin p e below (own_Ans s (Q24 Z b tb h0 n0) ({ frames := 0, cells := 0, slots := 0, locals := 0 } : Room).cells ({ frames := 0, cells := 0, slots := 0, locals := 0 } : Room).slots) (s₁.setTop (entryFrame m #[(.ref b)] 1))
  refine own_cast (ef_rm24 m b) ?_
  show own_Fin p e below _ (s₁.setTop (mkF m 0 #[.val (.ref b)] []))
  refine o_aldN X0 H (od dB24 0 rfl) rfl rfl ?_
  refine o_gf X0 H hZ hown (ow hw 65 rfl) Via.refl e0 F (od dB24 1 rfl) fun T14 X14 e14 => ?_
  exact own_ret (t := (.array .byte)) X14 hx hlk hret rfl (Or.inr (Or.inr (Or.inr (Or.inr ⟨rfl, rfl, rfl⟩)))) (hb hby (od dB24 2 rfl)) (⟨rfl, N0, e14⟩) (by decide) (by decide)
theorem dB26 : oL jdk_68_method_6_code [(0, .aload_n 0, 1), (1, .getfield 79, 3), (4, .ireturn, 1)] := by unfold oL; decide +kernel
theorem ef_rm26 (m : MethodId) (x0 : Addr) : entryFrame m #[(.ref x0)] 1 = mkF m 0 #[.val (.ref x0)] [] := by first | (simp [entryFrame, mkF, argsToLocals, Value.category]; done) | rfl
def Q26 (Z : State) (b : Addr) (k : Int32) (h0 : Heap) (n0 : Nat) (v : Option Value) (h : Heap) (L : List Loc) : Prop := v = some (.int k) ∧ Fr n0 L ∧ h = h0
set_option maxRecDepth 65536 in
set_option maxHeartbeats 40000000 in
theorem rm26 (l : Launch) (Z : State) (a0 : Array Value) (hw : ∀ d ∈ tables_1, d.before a0 Z = true) (ws : List Jvm.Cond) (b : Addr) (k : Int32) (h0 : Heap) (n0 : Nat) (Z0 : n0 ≤ h0.size) (E : Exa Z h0 b "java/lang/StringBuilder") (F : Fld Z h0 b "java/lang/AbstractStringBuilder" "count" "I" (.int k)) :
    own_M l (⟨"java/lang/AbstractStringBuilder", "length", "()I"⟩ : MethodName) jdk_68_method_6_code 1 (some .int) ws ({ frames := 0, cells := 0, slots := 0, locals := 0 } : Room) #[(.ref b)] Z h0 (Q26 Z b k h0 n0) := by
  refine MetFree.of_bodySF (plainFor_of_name pn_0) hisR ?_
  intro p e s m args below meth cd s₁ Bd hml hP hK
  obtain ⟨rfl, hZ, hh⟩ := hP
  obtain ⟨X0, e0, H, hlk, hown, hret⟩ := own_start (R := ({ frames := 0, cells := 0, slots := 0, locals := 0 } : Room)) Bd hh rfl
  have hx := H.1; have hby := H.2; have N0 := Fr.nil n0
  show own_Fin p e below (own_Ans s (Q26 Z b k h0 n0) ({ frames := 0, cells := 0, slots := 0, locals := 0 } : Room).cells ({ frames := 0, cells := 0, slots := 0, locals := 0 } : Room).slots) (s₁.setTop (entryFrame m #[(.ref b)] 1))
  refine own_cast (ef_rm26 m b) ?_
  show own_Fin p e below _ (s₁.setTop (mkF m 0 #[.val (.ref b)] []))
  refine o_aldN X0 H (od dB26 0 rfl) rfl rfl ?_
  refine o_gf X0 H hZ hown (ow hw 89 rfl) Via.refl e0 F (od dB26 1 rfl) fun T15 X15 e15 => ?_
  exact own_ret (t := .int) X15 hx hlk hret rfl (Or.inl ⟨rfl, (by simp), _, rfl⟩) (hb hby (od dB26 2 rfl)) (⟨rfl, N0, e15⟩) (by decide) (by decide)
theorem dB25 : oL jdk_67_method_93_code [(0, .aload_n 0, 1), (1, .invokespecial 343, 3), (4, .ireturn, 1)] := by unfold oL; decide +kernel
theorem pd_1 : parseMethodDescriptor "()I" = some ⟨[], some .int⟩ := by decide +kernel
theorem ef_rm25 (m : MethodId) (x0 : Addr) : entryFrame m #[(.ref x0)] 1 = mkF m 0 #[.val (.ref x0)] [] := by first | (simp [entryFrame, mkF, argsToLocals, Value.category]; done) | rfl
def Q25 (Z : State) (b : Addr) (k : Int32) (h0 : Heap) (n0 : Nat) (v : Option Value) (h : Heap) (L : List Loc) : Prop := v = some (.int k) ∧ Fr n0 L ∧ h = h0
set_option maxRecDepth 65536 in
set_option maxHeartbeats 40000000 in
theorem rm25 (l : Launch) (Z : State) (a0 : Array Value) (hw : ∀ d ∈ tables_1, d.before a0 Z = true) (ws : List Jvm.Cond) (b : Addr) (k : Int32) (h0 : Heap) (n0 : Nat) (Z0 : n0 ≤ h0.size) (E : Exa Z h0 b "java/lang/StringBuilder") (F : Fld Z h0 b "java/lang/AbstractStringBuilder" "count" "I" (.int k)) :
    own_M l (⟨"java/lang/StringBuilder", "length", "()I"⟩ : MethodName) jdk_67_method_93_code 1 (some .int) ws ({ frames := 1, cells := 0, slots := 0, locals := 12 } : Room) #[(.ref b)] Z h0 (Q25 Z b k h0 n0) := by
  refine MetFree.of_bodySF (plainFor_of_name pn_1) hisR ?_
  intro p e s m args below meth cd s₁ Bd hml hP hK
  obtain ⟨rfl, hZ, hh⟩ := hP
  obtain ⟨X0, e0, H, hlk, hown, hret⟩ := own_start (R := ({ frames := 1, cells := 0, slots := 0, locals := 12 } : Room)) Bd hh rfl
  have hx := H.1; have hby := H.2; have N0 := Fr.nil n0
  show own_Fin p e below (own_Ans s (Q25 Z b k h0 n0) ({ frames := 1, cells := 0, slots := 0, locals := 12 } : Room).cells ({ frames := 1, cells := 0, slots := 0, locals := 12 } : Room).slots) (s₁.setTop (entryFrame m #[(.ref b)] 1))
  refine own_cast (ef_rm25 m b) ?_
  show own_Fin p e below _ (s₁.setTop (mkF m 0 #[.val (.ref b)] []))
  refine o_aldN X0 H (od dB25 0 rfl) rfl rfl ?_
  refine o_bk (superBack X0 hx hZ (y := (⟨"java/lang/AbstractStringBuilder", "length", "()I"⟩ : MethodName)) hown (ow hw 140 rfl) (own_same (ow hw 135 rfl) (ow hw 94 rfl) rfl (by decide)) (ow hw 136 rfl) (ow hw 76 rfl) (by decide) (backOf (W := 0) (rm26 l Z a0 hw [] b k h0 n0 (by exact Z0) E F) hZ (ow hw 141 rfl) (ow hw 61 rfl) (by decide) (by decide)) e0 (Ins.self E) rfl (by exact hml.symm) (ow hw 141 rfl) (argsL := []) (rest := []) (lenOf pd_1 rfl) rfl (o_mr rfl) (hb hby (od dB25 1 rfl)) (fun _ _ => ⟨rfl, e0, (by decide : 0 + 0 ≤ _), (by decide : 0 + 0 ≤ _)⟩)) fun _ T16 Lc16 X16 hQ16 => ?_
  obtain ⟨rfl, N16q, e16⟩ := hQ16
  have N16 := Fr.app N0 N16q
  show own_Fin p e below _ (T16.setTop (mkF m 4 #[.val (.ref b)] [(.int k)]))
  exact own_ret (t := .int) X16 hx hlk hret rfl (Or.inl ⟨rfl, (by simp), _, rfl⟩) (hb hby (od dB25 2 rfl)) (⟨rfl, N16, e16⟩) (by decide) (by decide)
theorem pn_2 : plainName "java/lang/String" = true := by first | (simp [plainName, overriddenIn]; done) | decide +kernel
theorem dB16 : oL jdk_42_method_152_code [(0, .getstatic 38, 3), (3, .ifCond .eq 10, 3), (6, .aload_n 0, 1), (7, .getfield 15, 3), (10, .goto 4, 3), (13, .iconst 1, 1), (14, .ireturn, 1)] := by unfold oL; decide +kernel
theorem ef_rm16 (m : MethodId) (x0 : Addr) : entryFrame m #[(.ref x0)] 1 = mkF m 0 #[.val (.ref x0)] [] := by first | (simp [entryFrame, mkF, argsToLocals, Value.category]; done) | rfl
def Q16 (Z : State) (x : Addr) (z : Int32) (h0 : Heap) (n0 : Nat) (v : Option Value) (h : Heap) (L : List Loc) : Prop := v = some (.int (0 : Int32)) ∧ Fr n0 L ∧ h = h0
set_option maxRecDepth 65536 in
set_option maxHeartbeats 40000000 in
theorem rm16 (l : Launch) (Z : State) (a0 : Array Value) (hw : ∀ d ∈ tables_1, d.before a0 Z = true) (ws : List Jvm.Cond) (x : Addr) (z : Int32) (h0 : Heap) (n0 : Nat) (Z0 : n0 ≤ h0.size) (hz : ¬ z = (0 : Int32)) (O : Old Z n0 h0) (SC : Sta Z Z.heap "java/lang/String" "COMPACT_STRINGS" "Z" (.int z)) (Cx : Fld Z h0 x "java/lang/String" "coder" "B" (.int (0 : Int32))) :
    own_M l (⟨"java/lang/String", "coder", "()B"⟩ : MethodName) jdk_42_method_152_code 1 (some .byte) ws ({ frames := 0, cells := 0, slots := 0, locals := 0 } : Room) #[(.ref x)] Z h0 (Q16 Z x z h0 n0) := by
  refine MetFree.of_bodySF (plainFor_of_name pn_2) hisR ?_
  intro p e s m args below meth cd s₁ Bd hml hP hK
  obtain ⟨rfl, hZ, hh⟩ := hP
  obtain ⟨X0, e0, H, hlk, hown, hret⟩ := own_start (R := ({ frames := 0, cells := 0, slots := 0, locals := 0 } : Room)) Bd hh rfl
  have hx := H.1; have hby := H.2; have N0 := Fr.nil n0
  show own_Fin p e below (own_Ans s (Q16 Z x z h0 n0) ({ frames := 0, cells := 0, slots := 0, locals := 0 } : Room).cells ({ frames := 0, cells := 0, slots := 0, locals := 0 } : Room).slots) (s₁.setTop (entryFrame m #[(.ref x)] 1))
  refine own_cast (ef_rm16 m x) ?_
  show own_Fin p e below _ (s₁.setTop (mkF m 0 #[.val (.ref x)] []))
  refine o_gs X0 H hZ hown (ow hw 36 rfl) Via.refl e0 (SC.ext O.2) (od dB16 0 rfl) fun T17 X17 e17 => ?_
  refine o_ifN X17 H (od dB16 1 rfl) ((if0 _ _).trans (feq hz).1) ?_
  refine o_aldN X17 H (od dB16 2 rfl) rfl rfl ?_
  refine o_gf X17 H hZ hown (ow hw 25 rfl) Via.refl e17 Cx (od dB16 3 rfl) fun T18 X18 e18 => ?_
  refine o_go X18 H (od dB16 4 rfl) (pc' := 14) (by decide) (by decide) ?_
  exact own_ret (t := .byte) X18 hx hlk hret rfl (Or.inl ⟨rfl, (by simp), _, rfl⟩) (hb hby (od dB16 6 rfl)) (⟨rfl, N0, e18⟩) (by decide) (by decide)
theorem dB15 : oL jdk_42_method_54_code [(0, .aload_n 0, 1), (1, .getfield 9, 3), (4, .arraylength, 1), (5, .aload_n 0, 1), (6, .invokevirtual 335, 3), (9, .ishr, 1), (10, .ireturn, 1)] := by unfold oL; decide +kernel
theorem pd_2 : parseMethodDescriptor "()B" = some ⟨[], some .byte⟩ := by decide +kernel
theorem ef_rm15 (m : MethodId) (x0 : Addr) : entryFrame m #[(.ref x0)] 1 = mkF m 0 #[.val (.ref x0)] [] := by first | (simp [entryFrame, mkF, argsToLocals, Value.category]; done) | rfl
def Q15 (Z : State) (x : Addr) (z : Int32) (tx : Addr) (kx : ClassId) (n : Nat) (ds : List Int32) (h0 : Heap) (n0 : Nat) (v : Option Value) (h : Heap) (L : List Loc) : Prop := v = some (.int (Int32.ofNat n)) ∧ Fr n0 L ∧ h = h0
set_option maxRecDepth 65536 in
set_option maxHeartbeats 40000000 in
theorem rm15 (l : Launch) (Z : State) (a0 : Array Value) (hw : ∀ d ∈ tables_1, d.before a0 Z = true) (ws : List Jvm.Cond) (x : Addr) (z : Int32) (tx : Addr) (kx : ClassId) (n : Nat) (ds : List Int32) (h0 : Heap) (n0 : Nat) (Z0 : n0 ≤ h0.size) (hz : ¬ z = (0 : Int32)) (O : Old Z n0 h0) (SC : Sta Z Z.heap "java/lang/String" "COMPACT_STRINGS" "Z" (.int z)) (Ex : Exa Z h0 x "java/lang/String") (Cx : Fld Z h0 x "java/lang/String" "coder" "B" (.int (0 : Int32))) (Vx : Fld Z h0 x "java/lang/String" "value" "[B" (.ref tx)) (Kx : Arv Z h0 tx kx .byte (Int32.ofNat n) ((ds.map StrChars.lo8).map Value.int) (.int 0)) (hnx : ds.length = n) :
    own_M l (⟨"java/lang/String", "length", "()I"⟩ : MethodName) jdk_42_method_54_code 1 (some .int) ws ({ frames := 1, cells := 0, slots := 0, locals := 13 } : Room) #[(.ref x)] Z h0 (Q15 Z x z tx kx n ds h0 n0) := by
  refine MetFree.of_bodySF (plainFor_of_name pn_2) hisR ?_
  intro p e s m args below meth cd s₁ Bd hml hP hK
  obtain ⟨rfl, hZ, hh⟩ := hP
  obtain ⟨X0, e0, H, hlk, hown, hret⟩ := own_start (R := ({ frames := 1, cells := 0, slots := 0, locals := 13 } : Room)) Bd hh rfl
  have hx := H.1; have hby := H.2; have N0 := Fr.nil n0
  show own_Fin p e below (own_Ans s (Q15 Z x z tx kx n ds h0 n0) ({ frames := 1, cells := 0, slots := 0, locals := 13 } : Room).cells ({ frames := 1, cells := 0, slots := 0, locals := 13 } : Room).slots) (s₁.setTop (entryFrame m #[(.ref x)] 1))
  refine own_cast (ef_rm15 m x) ?_
  show own_Fin p e below _ (s₁.setTop (mkF m 0 #[.val (.ref x)] []))
  refine o_aldN X0 H (od dB15 0 rfl) rfl rfl ?_
  refine o_gf X0 H hZ hown (ow hw 24 rfl) Via.refl e0 Vx (od dB15 1 rfl) fun T19 X19 e19 => ?_
  have cp20 := Kx
  obtain ⟨cl20, Ar20, q20, S20, G20, H20, F20⟩ := cp20
  refine own_on (fun tq => X19.arraylength hx (by rw [e19]; exact Ar20.1) (State.isArrayOf_alike hZ.alike Ar20.2.1) (g := (mkF m 4 #[.val (.ref x)] [(.ref tx)])) rfl rfl (hb hby (od dB15 2 rfl)) tq) ?_
  rw [len_of S20 G20]
  show own_Fin p e below _ (T19.setTop (mkF m 5 #[.val (.ref x)] [(.int (Int32.ofNat n))]))
  refine o_aldN X19 H (od dB15 3 rfl) rfl rfl ?_
  refine o_vs (argsL := []) (rest := [(.int (Int32.ofNat n))]) X19 H hml hZ hown (ow hw 84 rfl) (ow hw 85 rfl) (ow hw 87 rfl) (ow hw 86 rfl) (backOf (W := 1) (rm16 l Z a0 hw [] x z h0 n0 (by exact Z0) hz O SC Cx) hZ (ow hw 88 rfl) (ow hw 6 rfl) (by decide) (by decide)) (by decide) Ex e19 pd_2 (od dB15 4 rfl) rfl rfl rfl rfl rfl (by decide) (by decide) (o_pk (fun _ _ _ q => q) N0 fun T21 Lc21 X21 N21 e21 => ?_)
  refine own_on (fun tq => XS.ishr X21.here hx rfl (hb hby (od dB15 5 rfl)) rfl) ?_
  show own_Fin p e below _ (T21.setTop (mkF m 10 #[.val (.ref x)] [(.int ((Int32.ofNat n) >>> ((0 : Int32) &&& 31)))]))
  rw [own_shr0]
  show own_Fin p e below _ (T21.setTop (mkF m 10 #[.val (.ref x)] [(.int (Int32.ofNat n))]))
  exact own_ret (t := .int) X21 hx hlk hret rfl (Or.inl ⟨rfl, (by simp), _, rfl⟩) (hb hby (od dB15 6 rfl)) (⟨rfl, N21, e21⟩) (by decide) (by decide)
theorem dB31 : oL jdk_29_method_69_code [(0, .iload_n 0, 1), (1, .iload_n 1, 1), (2, .if_icmp .gt 7, 3), (5, .iload_n 0, 1), (6, .goto 4, 3), (9, .iload_n 1, 1), (10, .ireturn, 1)] := by unfold oL; decide +kernel
theorem ef_rmMa (m : MethodId) (x0 : Int32) (x1 : Int32) : entryFrame m #[(.int x0), (.int x1)] 2 = mkF m 0 #[.val (.int x0), .val (.int x1)] [] := by first | (simp [entryFrame, mkF, argsToLocals, Value.category]; done) | rfl
def QMa (Z : State) (u1 : Int32) (u2 : Int32) (h0 : Heap) (n0 : Nat) (v : Option Value) (h : Heap) (L : List Loc) : Prop := v = some (.int u1) ∧ Fr n0 L ∧ h = h0
set_option maxRecDepth 65536 in
set_option maxHeartbeats 40000000 in
theorem rmMa (l : Launch) (Z : State) (a0 : Array Value) (hw : ∀ d ∈ tables_1, d.before a0 Z = true) (ws : List Jvm.Cond) (u1 : Int32) (u2 : Int32) (h0 : Heap) (n0 : Nat) (Z0 : n0 ≤ h0.size) (hm : ¬ u2 < u1) :
    own_M l (⟨"java/lang/Math", "min", "(II)I"⟩ : MethodName) jdk_29_method_69_code 2 (some .int) ws ({ frames := 0, cells := 0, slots := 0, locals := 0 } : Room) #[(.int u1), (.int u2)] Z h0 (QMa Z u1 u2 h0 n0) := by
  refine MetFree.of_bodySF (Jvm.Free.JP.mathPlain rfl (by decide +kernel)) hisR ?_
  intro p e s m args below meth cd s₁ Bd hml hP hK
  obtain ⟨rfl, hZ, hh⟩ := hP
  obtain ⟨X0, e0, H, hlk, hown, hret⟩ := own_start (R := ({ frames := 0, cells := 0, slots := 0, locals := 0 } : Room)) Bd hh rfl
  have hx := H.1; have hby := H.2; have N0 := Fr.nil n0
  show own_Fin p e below (own_Ans s (QMa Z u1 u2 h0 n0) ({ frames := 0, cells := 0, slots := 0, locals := 0 } : Room).cells ({ frames := 0, cells := 0, slots := 0, locals := 0 } : Room).slots) (s₁.setTop (entryFrame m #[(.int u1), (.int u2)] 2))
  refine own_cast (ef_rmMa m u1 u2) ?_
  show own_Fin p e below _ (s₁.setTop (mkF m 0 #[.val (.int u1), .val (.int u2)] []))
  refine o_ildN X0 H (od dB31 0 rfl) rfl ?_
  refine o_ildN X0 H (od dB31 1 rfl) rfl ?_
  refine o_icN X0 H (od dB31 2 rfl) (flt hm).2.2.1 ?_
  refine o_ildN X0 H (od dB31 3 rfl) rfl ?_
  refine o_go X0 H (od dB31 4 rfl) (pc' := 10) (by decide) (by decide) ?_
  exact own_ret (t := .int) X0 hx hlk hret rfl (Or.inl ⟨rfl, (by simp), _, rfl⟩) (hb hby (od dB31 6 rfl)) (⟨rfl, N0, e0⟩) (by decide) (by decide)
theorem ef_rmMb (m : MethodId) (x0 : Int32) (x1 : Int32) : entryFrame m #[(.int x0), (.int x1)] 2 = mkF m 0 #[.val (.int x0), .val (.int x1)] [] := by first | (simp [entryFrame, mkF, argsToLocals, Value.category]; done) | rfl
def QMb (Z : State) (u1 : Int32) (u2 : Int32) (h0 : Heap) (n0 : Nat) (v : Option Value) (h : Heap) (L : List Loc) : Prop := v = some (.int u2) ∧ Fr n0 L ∧ h = h0
set_option maxRecDepth 65536 in
set_option maxHeartbeats 40000000 in
theorem rmMb (l : Launch) (Z : State) (a0 : Array Value) (hw : ∀ d ∈ tables_1, d.before a0 Z = true) (ws : List Jvm.Cond) (u1 : Int32) (u2 : Int32) (h0 : Heap) (n0 : Nat) (Z0 : n0 ≤ h0.size) (hm : u2 < u1) :
    own_M l (⟨"java/lang/Math", "min", "(II)I"⟩ : MethodName) jdk_29_method_69_code 2 (some .int) ws ({ frames := 0, cells := 0, slots := 0, locals := 0 } : Room) #[(.int u1), (.int u2)] Z h0 (QMb Z u1 u2 h0 n0) := by
  refine MetFree.of_bodySF (Jvm.Free.JP.mathPlain rfl (by decide +kernel)) hisR ?_
  intro p e s m args below meth cd s₁ Bd hml hP hK
  obtain ⟨rfl, hZ, hh⟩ := hP
  obtain ⟨X0, e0, H, hlk, hown, hret⟩ := own_start (R := ({ frames := 0, cells := 0, slots := 0, locals := 0 } : Room)) Bd hh rfl
  have hx := H.1; have hby := H.2; have N0 := Fr.nil n0
  show own_Fin p e below (own_Ans s (QMb Z u1 u2 h0 n0) ({ frames := 0, cells := 0, slots := 0, locals := 0 } : Room).cells ({ frames := 0, cells := 0, slots := 0, locals := 0 } : Room).slots) (s₁.setTop (entryFrame m #[(.int u1), (.int u2)] 2))
  refine own_cast (ef_rmMb m u1 u2) ?_
  show own_Fin p e below _ (s₁.setTop (mkF m 0 #[.val (.int u1), .val (.int u2)] []))
  refine o_ildN X0 H (od dB31 0 rfl) rfl ?_
  refine o_ildN X0 H (od dB31 1 rfl) rfl ?_
  refine o_icY X0 H (od dB31 2 rfl) (tlt hm).2.2.1 (pc' := 9) (by decide) (by decide) ?_
  refine o_ildN X0 H (od dB31 5 rfl) rfl ?_
  exact own_ret (t := .int) X0 hx hlk hret rfl (Or.inl ⟨rfl, (by simp), _, rfl⟩) (hb hby (od dB31 6 rfl)) (⟨rfl, N0, e0⟩) (by decide) (by decide)
theorem dB19 : oL jdk_68_method_71_code [(0, .getstatic 18, 3), (3, .ifCond .eq 18, 3), (6, .aload_n 0, 1), (7, .getfield 22, 3), (10, .aload_n 1, 1), (11, .invokevirtual 40, 3), (14, .if_icmp .eq 7, 3), (17, .aload_n 0, 1), (18, .invokevirtual 195, 3), (21, .return_, 1)] := by unfold oL; decide +kernel
theorem ef_rm19 (m : MethodId) (x0 : Addr) (x1 : Addr) : entryFrame m #[(.ref x0), (.ref x1)] 2 = mkF m 0 #[.val (.ref x0), .val (.ref x1)] [] := by first | (simp [entryFrame, mkF, argsToLocals, Value.category]; done) | rfl
def Q19 (Z : State) (b : Addr) (x : Addr) (z : Int32) (h0 : Heap) (n0 : Nat) (v : Option Value) (h : Heap) (L : List Loc) : Prop := v = none ∧ Fr n0 L ∧ h = h0
set_option maxRecDepth 65536 in
set_option maxHeartbeats 40000000 in
theorem rm19 (l : Launch) (Z : State) (a0 : Array Value) (hw : ∀ d ∈ tables_1, d.before a0 Z = true) (ws : List Jvm.Cond) (b : Addr) (x : Addr) (z : Int32) (h0 : Heap) (n0 : Nat) (Z0 : n0 ≤ h0.size) (hz : ¬ z = (0 : Int32)) (O : Old Z n0 h0) (SC : Sta Z Z.heap "java/lang/String" "COMPACT_STRINGS" "Z" (.int z)) (Fk : Fld Z h0 b "java/lang/AbstractStringBuilder" "coder" "B" (.int (0 : Int32))) (Ex : Exa Z h0 x "java/lang/String") (Cx : Fld Z h0 x "java/lang/String" "coder" "B" (.int (0 : Int32))) :
    own_M l (⟨"java/lang/AbstractStringBuilder", "inflateIfNeededFor", "(Ljava/lang/String;)V"⟩ : MethodName) jdk_68_method_71_code 2 none ws ({ frames := 1, cells := 0, slots := 0, locals := 13 } : Room) #[(.ref b), (.ref x)] Z h0 (Q19 Z b x z h0 n0) := by
  refine MetFree.of_bodySF (plainFor_of_name pn_0) hisR ?_
  intro p e s m args below meth cd s₁ Bd hml hP hK
  obtain ⟨rfl, hZ, hh⟩ := hP
  obtain ⟨X0, e0, H, hlk, hown, hret⟩ := own_start (R := ({ frames := 1, cells := 0, slots := 0, locals := 13 } : Room)) Bd hh rfl
  have hx := H.1; have hby := H.2; have N0 := Fr.nil n0
  show own_Fin p e below (own_Ans s (Q19 Z b x z h0 n0) ({ frames := 1, cells := 0, slots := 0, locals := 13 } : Room).cells ({ frames := 1, cells := 0, slots := 0, locals := 13 } : Room).slots) (s₁.setTop (entryFrame m #[(.ref b), (.ref x)] 2))
  refine own_cast (ef_rm19 m b x) ?_
  show own_Fin p e below _ (s₁.setTop (mkF m 0 #[.val (.ref b), .val (.ref x)] []))
  refine o_gs X0 H hZ hown (ow hw 64 rfl) Via.refl e0 (SC.ext O.2) (od dB19 0 rfl) fun T22 X22 e22 => ?_
  refine o_ifN X22 H (od dB19 1 rfl) ((if0 _ _).trans (feq hz).1) ?_
  refine o_aldN X22 H (od dB19 2 rfl) rfl rfl ?_
  refine o_gf X22 H hZ hown (ow hw 67 rfl) Via.refl e22 Fk (od dB19 3 rfl) fun T23 X23 e23 => ?_
  refine o_aldN X23 H (od dB19 4 rfl) rfl rfl ?_
  refine o_vs (argsL := []) (rest := [(.int (0 : Int32))]) X23 H hml hZ hown (ow hw 106 rfl) (ow hw 85 rfl) (ow hw 87 rfl) (ow hw 86 rfl) (backOf (W := 1) (rm16 l Z a0 hw [] x z h0 n0 (by exact Z0) hz O SC Cx) hZ (ow hw 88 rfl) (ow hw 6 rfl) (by decide) (by decide)) (by decide) Ex e23 pd_2 (od dB19 5 rfl) rfl rfl rfl rfl rfl (by decide) (by decide) (o_pk (fun _ _ _ q => q) N0 fun T24 Lc24 X24 N24 e24 => ?_)
  refine o_icY X24 H (od dB19 6 rfl) (teq (by decide : (0 : Int32) = (0 : Int32))).1 (pc' := 21) (by decide) (by decide) ?_
  exact own_retV X24 hx hlk hret (hb hby (od dB19 9 rfl)) (⟨rfl, N24, e24⟩) (by decide) (by decide)
theorem dB20 : oL jdk_42_method_147_code [(0, .aload_n 0, 1), (1, .invokevirtual 335, 3), (4, .iload_n 3, 1), (5, .if_icmp .ne 23, 3), (8, .aload_n 0, 1), (9, .getfield 9, 3), (12, .iconst 0, 1), (13, .aload_n 1, 1), (14, .iload_n 2, 1), (15, .iload_n 3, 1), (16, .ishl, 1), (17, .aload_n 0, 1), (18, .getfield 9, 3), (21, .arraylength, 1), (22, .invokestatic 212, 3), (25, .goto 18, 3), (28, .aload_n 0, 1), (29, .getfield 9, 3), (32, .iconst 0, 1), (33, .aload_n 1, 1), (34, .iload_n 2, 1), (35, .aload_n 0, 1), (36, .getfield 9, 3), (39, .arraylength, 1), (40, .invokestatic 106, 3), (43, .return_, 1)] := by unfold oL; decide +kernel
theorem ef_rm20 (m : MethodId) (x0 : Addr) (x1 : Addr) (x2 : Int32) (x3 : Int32) : entryFrame m #[(.ref x0), (.ref x1), (.int x2), (.int x3)] 4 = mkF m 0 #[.val (.ref x0), .val (.ref x1), .val (.int x2), .val (.int x3)] [] := by first | (simp [entryFrame, mkF, argsToLocals, Value.category]; done) | rfl
def Q20 (Z : State) (x : Addr) (tb : Addr) (z : Int32) (kt : ClassId) (k : Nat) (cs : List Int32) (c : Nat) (tx : Addr) (kx : ClassId) (n : Nat) (ds : List Int32) (h0 : Heap) (n0 : Nat) (v : Option Value) (h : Heap) (L : List Loc) : Prop := v = none ∧ Fr n0 L ∧ Keep h0 h [tb] ∧ Arv Z h tb kt .byte (Int32.ofNat c) (((cs ++ ds).map StrChars.lo8).map Value.int) (.int 0)
set_option maxRecDepth 65536 in
set_option maxHeartbeats 40000000 in
theorem rm20 (l : Launch) (Z : State) (a0 : Array Value) (hw : ∀ d ∈ tables_1, d.before a0 Z = true) (ws : List Jvm.Cond) (x : Addr) (tb : Addr) (z : Int32) (kt : ClassId) (k : Nat) (cs : List Int32) (c : Nat) (tx : Addr) (kx : ClassId) (n : Nat) (ds : List Int32) (h0 : Heap) (n0 : Nat) (Z0 : n0 ≤ h0.size) (hz : ¬ z = (0 : Int32)) (O : Old Z n0 h0) (SC : Sta Z Z.heap "java/lang/String" "COMPACT_STRINGS" "Z" (.int z)) (At : Arv Z h0 tb kt .byte (Int32.ofNat c) ((cs.map StrChars.lo8).map Value.int) (.int 0)) (gt : n0 ≤ tb) (hk : cs.length = k) (Ex : Exa Z h0 x "java/lang/String") (Cx : Fld Z h0 x "java/lang/String" "coder" "B" (.int (0 : Int32))) (Vx : Fld Z h0 x "java/lang/String" "value" "[B" (.ref tx)) (Kx : Arv Z h0 tx kx .byte (Int32.ofNat n) ((ds.map StrChars.lo8).map Value.int) (.int 0)) (hnx : ds.length = n) (nxt : tx ≠ tb) (nyt : x ≠ tb) (hkn : k + n ≤ c) (hc : c < 1000) :
    own_M l (⟨"java/lang/String", "getBytes", "([BIB)V"⟩ : MethodName) jdk_42_method_147_code 4 none ws ({ frames := 1, cells := 0, slots := 0, locals := 18 } : Room) #[(.ref x), (.ref tb), (.int (Int32.ofNat k)), (.int (0 : Int32))] Z h0 (Q20 Z x tb z kt k cs c tx kx n ds h0 n0) := by
  refine MetFree.of_bodySF (plainFor_of_name pn_2) hisR ?_
  intro p e s m args below meth cd s₁ Bd hml hP hK
  obtain ⟨rfl, hZ, hh⟩ := hP
  obtain ⟨X0, e0, H, hlk, hown, hret⟩ := own_start (R := ({ frames := 1, cells := 0, slots := 0, locals := 18 } : Room)) Bd hh rfl
  have hx := H.1; have hby := H.2; have N0 := Fr.nil n0
  show own_Fin p e below (own_Ans s (Q20 Z x tb z kt k cs c tx kx n ds h0 n0) ({ frames := 1, cells := 0, slots := 0, locals := 18 } : Room).cells ({ frames := 1, cells := 0, slots := 0, locals := 18 } : Room).slots) (s₁.setTop (entryFrame m #[(.ref x), (.ref tb), (.int (Int32.ofNat k)), (.int (0 : Int32))] 4))
  refine own_cast (ef_rm20 m x tb (Int32.ofNat k) (0 : Int32)) ?_
  show own_Fin p e below _ (s₁.setTop (mkF m 0 #[.val (.ref x), .val (.ref tb), .val (.int (Int32.ofNat k)), .val (.int (0 : Int32))] []))
  refine o_aldN X0 H (od dB20 0 rfl) rfl rfl ?_
  refine o_vs (argsL := []) (rest := []) X0 H hml hZ hown (ow hw 84 rfl) (ow hw 85 rfl) (ow hw 87 rfl) (ow hw 86 rfl) (backOf (W := 0) (rm16 l Z a0 hw [] x z h0 n0 (by exact Z0) hz O SC Cx) hZ (ow hw 88 rfl) (ow hw 6 rfl) (by decide) (by decide)) (by decide) Ex e0 pd_2 (od dB20 1 rfl) rfl rfl rfl rfl rfl (by decide) (by decide) (o_pk (fun _ _ _ q => q) N0 fun T25 Lc25 X25 N25 e25 => ?_)
  refine o_ildN X25 H (od dB20 2 rfl) rfl ?_
  refine o_icN X25 H (od dB20 3 rfl) (teq (by decide : (0 : Int32) = (0 : Int32))).2 ?_
  refine o_aldN X25 H (od dB20 4 rfl) rfl rfl ?_
  refine o_gf X25 H hZ hown (ow hw 24 rfl) Via.refl e25 Vx (od dB20 5 rfl) fun T26 X26 e26 => ?_
  refine o_ic X26 H (od dB20 6 rfl) (v := 0) rfl ?_
  refine o_aldN X26 H (od dB20 7 rfl) rfl rfl ?_
  refine o_ildN X26 H (od dB20 8 rfl) rfl ?_
  refine o_ildN X26 H (od dB20 9 rfl) rfl ?_
  refine own_on (fun tq => XS.ishl X26.here hx rfl (hb hby (od dB20 10 rfl)) rfl) ?_
  show own_Fin p e below _ (T26.setTop (mkF m 17 #[.val (.ref x), .val (.ref tb), .val (.int (Int32.ofNat k)), .val (.int (0 : Int32))] [(.int ((Int32.ofNat k) <<< ((0 : Int32) &&& 31))), (.ref tb), (.int (0 : Int32)), (.ref tx)]))
  rw [own_shl0]
  show own_Fin p e below _ (T26.setTop (mkF m 17 #[.val (.ref x), .val (.ref tb), .val (.int (Int32.ofNat k)), .val (.int (0 : Int32))] [(.int (Int32.ofNat k)), (.ref tb), (.int (0 : Int32)), (.ref tx)]))
  refine o_aldN X26 H (od dB20 11 rfl) rfl rfl ?_
  refine o_gf X26 H hZ hown (ow hw 24 rfl) Via.refl e26 Vx (od dB20 12 rfl) fun T27 X27 e27 => ?_
  have cp28 := Kx
  obtain ⟨cl28, Ar28, q28, S28, G28, H28, F28⟩ := cp28
  refine own_on (fun tq => X27.arraylength hx (by rw [e27]; exact Ar28.1) (State.isArrayOf_alike hZ.alike Ar28.2.1) (g := (mkF m 21 #[.val (.ref x), .val (.ref tb), .val (.int (Int32.ofNat k)), .val (.int (0 : Int32))] [(.ref tx), (.int (Int32.ofNat k)), (.ref tb), (.int (0 : Int32)), (.ref tx)])) rfl rfl (hb hby (od dB20 13 rfl)) tq) ?_
  rw [len_of S28 G28]
  show own_Fin p e below _ (T27.setTop (mkF m 22 #[.val (.ref x), .val (.ref tb), .val (.int (Int32.ofNat k)), .val (.int (0 : Int32))] [(.int (Int32.ofNat n)), (.int (Int32.ofNat k)), (.ref tb), (.int (0 : Int32)), (.ref tx)]))
  obtain ⟨T29, h29, L29, X29, e29, N29, K29, A29, st29⟩ := own_cpPut X27 hx hZ hown (ow hw 112 rfl) (ow hw 115 rfl) (ow hw 113 rfl) (ow hw 114 rfl) e27 Kx At hk hnx hkn (by omega) N25 gt (g := (mkF m 22 #[.val (.ref x), .val (.ref tb), .val (.int (Int32.ofNat k)), .val (.int (0 : Int32))] [(.int (Int32.ofNat n)), (.int (Int32.ofNat k)), (.ref tb), (.int (0 : Int32)), (.ref tx)])) rfl (by rw [hml]; rfl) rfl (hb hby (od dB20 14 rfl)) (by decide) (W := 0) (by show 2 * 0 + _ ≤ _; exact Nat.le_of_eq rfl) (by decide)
  refine own_on st29 ?_
  show own_Fin p e below _ (T29.setTop (mkF m 25 #[.val (.ref x), .val (.ref tb), .val (.int (Int32.ofNat k)), .val (.int (0 : Int32))] []))
  refine o_go X29 H (od dB20 15 rfl) (pc' := 43) (by decide) (by decide) ?_
  exact own_retV X29 hx hlk hret (hb hby (od dB20 25 rfl)) (by show Q20 Z x tb z kt k cs c tx kx n ds h0 n0 _ T29.heap _; rw [e29]; exact ⟨rfl, N29, ((Keep.refl h0 [tb]).trans K29 (allS (Or.inl (List.mem_of_getElem? (i := 0) rfl)) all0)), A29⟩) (by decide) (by decide)
theorem dB18 : oL jdk_68_method_73_code [(0, .aload_n 0, 1), (1, .aload_n 2, 1), (2, .invokevirtual 397, 3), (5, .aload_n 2, 1), (6, .aload_n 0, 1), (7, .getfield 15, 3), (10, .iload_n 1, 1), (11, .aload_n 0, 1), (12, .getfield 22, 3), (15, .invokevirtual 399, 3), (18, .return_, 1)] := by unfold oL; decide +kernel
theorem pd_3 : parseMethodDescriptor "(Ljava/lang/String;)V" = some ⟨[(.object "java/lang/String")], none⟩ := by decide +kernel
theorem pd_4 : parseMethodDescriptor "([BIB)V" = some ⟨[(.array .byte), .int, .byte], none⟩ := by decide +kernel
theorem ef_rm18 (m : MethodId) (x0 : Addr) (x1 : Int32) (x2 : Addr) : entryFrame m #[(.ref x0), (.int x1), (.ref x2)] 3 = mkF m 0 #[.val (.ref x0), .val (.int x1), .val (.ref x2)] [] := by first | (simp [entryFrame, mkF, argsToLocals, Value.category]; done) | rfl
def Q18 (Z : State) (b : Addr) (x : Addr) (z : Int32) (tb : Addr) (kt : ClassId) (k : Nat) (cs : List Int32) (c : Nat) (tx : Addr) (kx : ClassId) (n : Nat) (ds : List Int32) (h0 : Heap) (n0 : Nat) (v : Option Value) (h : Heap) (L : List Loc) : Prop := v = none ∧ Fr n0 L ∧ Keep h0 h [tb] ∧ Arv Z h tb kt .byte (Int32.ofNat c) (((cs ++ ds).map StrChars.lo8).map Value.int) (.int 0)
set_option maxRecDepth 65536 in
set_option maxHeartbeats 40000000 in
theorem rm18 (l : Launch) (Z : State) (a0 : Array Value) (hw : ∀ d ∈ tables_1, d.before a0 Z = true) (ws : List Jvm.Cond) (b : Addr) (x : Addr) (z : Int32) (tb : Addr) (kt : ClassId) (k : Nat) (cs : List Int32) (c : Nat) (tx : Addr) (kx : ClassId) (n : Nat) (ds : List Int32) (h0 : Heap) (n0 : Nat) (Z0 : n0 ≤ h0.size) (hz : ¬ z = (0 : Int32)) (O : Old Z n0 h0) (SC : Sta Z Z.heap "java/lang/String" "COMPACT_STRINGS" "Z" (.int z)) (Eb : Exa Z h0 b "java/lang/StringBuilder") (Fv : Fld Z h0 b "java/lang/AbstractStringBuilder" "value" "[B" (.ref tb)) (Fc : Fld Z h0 b "java/lang/AbstractStringBuilder" "count" "I" (.int (Int32.ofNat k))) (Fk : Fld Z h0 b "java/lang/AbstractStringBuilder" "coder" "B" (.int (0 : Int32))) (At : Arv Z h0 tb kt .byte (Int32.ofNat c) ((cs.map StrChars.lo8).map Value.int) (.int 0)) (gb : n0 ≤ b) (gt : n0 ≤ tb) (nbt : b ≠ tb) (hk : cs.length = k) (Ex : Exa Z h0 x "java/lang/String") (Cx : Fld Z h0 x "java/lang/String" "coder" "B" (.int (0 : Int32))) (Vx : Fld Z h0 x "java/lang/String" "value" "[B" (.ref tx)) (Kx : Arv Z h0 tx kx .byte (Int32.ofNat n) ((ds.map StrChars.lo8).map Value.int) (.int 0)) (hnx : ds.length = n) (nxt : tx ≠ tb) (nxb : tx ≠ b) (nyt : x ≠ tb) (nyb : x ≠ b) (hkn : k + n ≤ c) (hc : c < 1000) :
    own_M l (⟨"java/lang/AbstractStringBuilder", "putStringAt", "(ILjava/lang/String;)V"⟩ : MethodName) jdk_68_method_73_code 3 none ws ({ frames := 2, cells := 0, slots := 0, locals := 33 } : Room) #[(.ref b), (.int (Int32.ofNat k)), (.ref x)] Z h0 (Q18 Z b x z tb kt k cs c tx kx n ds h0 n0) := by
  refine MetFree.of_bodySF (plainFor_of_name pn_0) hisR ?_
  intro p e s m args below meth cd s₁ Bd hml hP hK
  obtain ⟨rfl, hZ, hh⟩ := hP
  obtain ⟨X0, e0, H, hlk, hown, hret⟩ := own_start (R := ({ frames := 2, cells := 0, slots := 0, locals := 33 } : Room)) Bd hh rfl
  have hx := H.1; have hby := H.2; have N0 := Fr.nil n0
  show own_Fin p e below (own_Ans s (Q18 Z b x z tb kt k cs c tx kx n ds h0 n0) ({ frames := 2, cells := 0, slots := 0, locals := 33 } : Room).cells ({ frames := 2, cells := 0, slots := 0, locals := 33 } : Room).slots) (s₁.setTop (entryFrame m #[(.ref b), (.int (Int32.ofNat k)), (.ref x)] 3))
  refine own_cast (ef_rm18 m b (Int32.ofNat k) x) ?_
  show own_Fin p e below _ (s₁.setTop (mkF m 0 #[.val (.ref b), .val (.int (Int32.ofNat k)), .val (.ref x)] []))
  refine o_aldN X0 H (od dB18 0 rfl) rfl rfl ?_
  refine o_aldN X0 H (od dB18 1 rfl) rfl rfl ?_
  refine o_pc (argsL := [(.ref x)]) (rest := []) X0 H hml hZ hown (ow hw 101 rfl) (ow hw 102 rfl) (own_selfsel (mvT hZ (ow hw 104 rfl)) (Cond.privateMethod_at (mvP hZ (ow hw 103 rfl) (args := #[]))) (mvT hZ (ow hw 102 rfl)) (by decide)) (ow hw 103 rfl) (ow hw 105 rfl) (backOf (W := 0) (rm19 l Z a0 hw [] b x z h0 n0 (by exact Z0) hz O SC Fk Ex Cx) hZ (ow hw 105 rfl) (ow hw 61 rfl) (by decide) (by decide)) (by decide) Eb e0 pd_3 (od dB18 2 rfl) rfl rfl rfl rfl rfl (by decide) (by decide) (o_pv (fun _ _ _ q => q) N0 fun T30 Lc30 X30 N30 e30 => ?_)
  refine o_aldN X30 H (od dB18 3 rfl) rfl rfl ?_
  refine o_aldN X30 H (od dB18 4 rfl) rfl rfl ?_
  refine o_gf X30 H hZ hown (ow hw 65 rfl) Via.refl e30 Fv (od dB18 5 rfl) fun T31 X31 e31 => ?_
  refine o_ildN X31 H (od dB18 6 rfl) rfl ?_
  refine o_aldN X31 H (od dB18 7 rfl) rfl rfl ?_
  refine o_gf X31 H hZ hown (ow hw 67 rfl) Via.refl e31 Fk (od dB18 8 rfl) fun T32 X32 e32 => ?_
  refine o_vs (argsL := [(.ref tb), (.int (Int32.ofNat k)), (.int (0 : Int32))]) (rest := []) X32 H hml hZ hown (ow hw 107 rfl) (ow hw 108 rfl) (ow hw 110 rfl) (ow hw 109 rfl) (backOf (W := 0) (rm20 l Z a0 hw [] x tb z kt k cs c tx kx n ds h0 n0 (by exact Z0) hz O SC At gt hk Ex Cx Vx Kx hnx nxt nyt hkn hc) hZ (ow hw 111 rfl) (ow hw 6 rfl) (by decide) (by decide)) (by decide) Ex e32 pd_4 (od dB18 9 rfl) rfl rfl rfl rfl rfl (by decide) (by decide) fun _ T33 Lc33 X33 hQ33 => ?_
  obtain ⟨rfl, N33q, K33, Aq33⟩ := hQ33
  have N33 := Fr.app N30 N33q
  show own_Fin p e below _ (T33.setTop (mkF m 18 #[.val (.ref b), .val (.int (Int32.ofNat k)), .val (.ref x)] []))
  exact own_retV X33 hx hlk hret (hb hby (od dB18 10 rfl)) (by show Q18 Z b x z tb kt k cs c tx kx n ds h0 n0 _ T33.heap _; exact ⟨rfl, N33, ((Keep.refl h0 [tb]).trans K33 (allS (Or.inl (List.mem_of_getElem? (i := 0) rfl)) all0)), Aq33⟩) (by decide) (by decide)
theorem dB17 : oL jdk_68_method_9_code [(0, .aload_n 0, 1), (1, .getfield 15, 3), (4, .arraylength, 1), (5, .aload_n 0, 1), (6, .getfield 22, 3), (9, .ishr, 1), (10, .istore_n 2, 1), (11, .iload_n 1, 1), (12, .iload_n 2, 1), (13, .isub, 1), (14, .ifCond .le 24, 3), (17, .aload_n 0, 1), (18, .aload_n 0, 1), (19, .getfield 15, 3), (22, .aload_n 0, 1), (23, .iload_n 1, 1), (24, .invokevirtual 104, 3), (27, .aload_n 0, 1), (28, .getfield 22, 3), (31, .ishl, 1), (32, .invokestatic 108, 3), (35, .putfield 15, 3), (38, .return_, 1)] := by unfold oL; decide +kernel
theorem ef_rmEn16 (m : MethodId) (x0 : Addr) (x1 : Int32) : entryFrame m #[(.ref x0), (.int x1)] 3 = mkF m 0 #[.val (.ref x0), .val (.int x1), .unset] [] := by first | (simp [entryFrame, mkF, argsToLocals, Value.category]; done) | rfl
def QEn16 (Z : State) (b : Addr) (tb : Addr) (kt : ClassId) (vs : List Value) (q : Nat) (h0 : Heap) (n0 : Nat) (v : Option Value) (h : Heap) (L : List Loc) : Prop := v = none ∧ Fr n0 L ∧ h = h0
set_option maxRecDepth 65536 in
set_option maxHeartbeats 40000000 in
theorem rmEn16 (l : Launch) (Z : State) (a0 : Array Value) (hw : ∀ d ∈ tables_1, d.before a0 Z = true) (ws : List Jvm.Cond) (b : Addr) (tb : Addr) (kt : ClassId) (vs : List Value) (q : Nat) (h0 : Heap) (n0 : Nat) (Z0 : n0 ≤ h0.size) (Fv : Fld Z h0 b "java/lang/AbstractStringBuilder" "value" "[B" (.ref tb)) (Fk : Fld Z h0 b "java/lang/AbstractStringBuilder" "coder" "B" (.int (0 : Int32))) (At : Arv Z h0 tb kt .byte (16 : Int32) vs (.int 0)) (hq : q ≤ 16) :
    own_M l (⟨"java/lang/AbstractStringBuilder", "ensureCapacityInternal", "(I)V"⟩ : MethodName) jdk_68_method_9_code 3 none ws ({ frames := 0, cells := 0, slots := 0, locals := 0 } : Room) #[(.ref b), (.int (Int32.ofNat q))] Z h0 (QEn16 Z b tb kt vs q h0 n0) := by
  refine MetFree.of_bodySF (plainFor_of_name pn_0) hisR ?_
  intro p e s m args below meth cd s₁ Bd hml hP hK
  obtain ⟨rfl, hZ, hh⟩ := hP
  obtain ⟨X0, e0, H, hlk, hown, hret⟩ := own_start (R := ({ frames := 0, cells := 0, slots := 0, locals := 0 } : Room)) Bd hh rfl
  have hx := H.1; have hby := H.2; have N0 := Fr.nil n0
  show own_Fin p e below (own_Ans s (QEn16 Z b tb kt vs q h0 n0) ({ frames := 0, cells := 0, slots := 0, locals := 0 } : Room).cells ({ frames := 0, cells := 0, slots := 0, locals := 0 } : Room).slots) (s₁.setTop (entryFrame m #[(.ref b), (.int (Int32.ofNat q))] 3))
  refine own_cast (ef_rmEn16 m b (Int32.ofNat q)) ?_
  show own_Fin p e below _ (s₁.setTop (mkF m 0 #[.val (.ref b), .val (.int (Int32.ofNat q)), .unset] []))
  refine o_aldN X0 H (od dB17 0 rfl) rfl rfl ?_
  refine o_gf X0 H hZ hown (ow hw 65 rfl) Via.refl e0 Fv (od dB17 1 rfl) fun T34 X34 e34 => ?_
  have cp35 := At
  obtain ⟨cl35, Ar35, q35, S35, G35, H35, F35⟩ := cp35
  refine own_on (fun tq => X34.arraylength hx (by rw [e34]; exact Ar35.1) (State.isArrayOf_alike hZ.alike Ar35.2.1) (g := (mkF m 4 #[.val (.ref b), .val (.int (Int32.ofNat q)), .unset] [(.ref tb)])) rfl rfl (hb hby (od dB17 2 rfl)) tq) ?_
  rw [len_of S35 G35]
  show own_Fin p e below _ (T34.setTop (mkF m 5 #[.val (.ref b), .val (.int (Int32.ofNat q)), .unset] [(.int (16 : Int32))]))
  refine o_aldN X34 H (od dB17 3 rfl) rfl rfl ?_
  refine o_gf X34 H hZ hown (ow hw 67 rfl) Via.refl e34 Fk (od dB17 4 rfl) fun T36 X36 e36 => ?_
  refine own_on (fun tq => XS.ishr X36.here hx rfl (hb hby (od dB17 5 rfl)) rfl) ?_
  show own_Fin p e below _ (T36.setTop (mkF m 10 #[.val (.ref b), .val (.int (Int32.ofNat q)), .unset] [(.int (16 : Int32))]))
  refine o_istN X36 H (od dB17 6 rfl) (L' := #[.val (.ref b), .val (.int (Int32.ofNat q)), .val (.int (16 : Int32))]) rfl ?_
  refine o_ildN X36 H (od dB17 7 rfl) rfl ?_
  refine o_ildN X36 H (od dB17 8 rfl) rfl ?_
  refine o_isub X36 H (od dB17 9 rfl) ?_
  refine o_ifY X36 H (od dB17 10 rfl) ((if0 _ _).trans (flt (own_ns (a := q) (b := 16) hq (by decide))).2.2.2) (pc' := 38) (by decide) (by decide) ?_
  exact own_retV X36 hx hlk hret (hb hby (od dB17 22 rfl)) (⟨rfl, N0, e36⟩) (by decide) (by decide)
theorem dB14 : oL jdk_68_method_22_code [(0, .aload_n 1, 1), (1, .ifnonnull 8, 3), (4, .aload_n 0, 1), (5, .invokevirtual 204, 3), (8, .areturn, 1), (9, .aload_n 1, 1), (10, .invokevirtual 32, 3), (13, .istore_n 2, 1), (14, .aload_n 0, 1), (15, .aload_n 0, 1), (16, .getfield 79, 3), (19, .iload_n 2, 1), (20, .iadd, 1), (21, .invokevirtual 100, 3), (24, .aload_n 0, 1), (25, .aload_n 0, 1), (26, .getfield 79, 3), (29, .aload_n 1, 1), (30, .invokevirtual 208, 3), (33, .aload_n 0, 1), (34, .dup, 1), (35, .getfield 79, 3), (38, .iload_n 2, 1), (39, .iadd, 1), (40, .putfield 79, 3), (43, .aload_n 0, 1), (44, .areturn, 1)] := by unfold oL; decide +kernel
theorem pd_5 : parseMethodDescriptor "(ILjava/lang/String;)V" = some ⟨[.int, (.object "java/lang/String")], none⟩ := by decide +kernel
theorem ef_rmQan16 (m : MethodId) (x0 : Addr) (x1 : Addr) : entryFrame m #[(.ref x0), (.ref x1)] 3 = mkF m 0 #[.val (.ref x0), .val (.ref x1), .unset] [] := by first | (simp [entryFrame, mkF, argsToLocals, Value.category]; done) | rfl
def QQan16 (Z : State) (b : Addr) (x : Addr) (z : Int32) (tb : Addr) (kt : ClassId) (k : Nat) (cs : List Int32) (tx : Addr) (kx : ClassId) (n : Nat) (ds : List Int32) (h0 : Heap) (n0 : Nat) (v : Option Value) (h : Heap) (L : List Loc) : Prop := v = some (.ref b) ∧ Fr n0 L ∧ Keep h0 h [b, tb] ∧ Exa Z h b "java/lang/StringBuilder" ∧ Fld Z h b "java/lang/AbstractStringBuilder" "value" "[B" (.ref tb) ∧ Fld Z h b "java/lang/AbstractStringBuilder" "count" "I" (.int (Int32.ofNat (k + n))) ∧ Fld Z h b "java/lang/AbstractStringBuilder" "coder" "B" (.int (0 : Int32)) ∧ Arv Z h tb kt .byte (16 : Int32) (((cs ++ ds).map StrChars.lo8).map Value.int) (.int 0)
set_option maxRecDepth 65536 in
set_option maxHeartbeats 40000000 in
theorem rmQan16 (l : Launch) (Z : State) (a0 : Array Value) (hw : ∀ d ∈ tables_1, d.before a0 Z = true) (ws : List Jvm.Cond) (b : Addr) (x : Addr) (z : Int32) (tb : Addr) (kt : ClassId) (k : Nat) (cs : List Int32) (tx : Addr) (kx : ClassId) (n : Nat) (ds : List Int32) (h0 : Heap) (n0 : Nat) (Z0 : n0 ≤ h0.size) (hz : ¬ z = (0 : Int32)) (O : Old Z n0 h0) (SC : Sta Z Z.heap "java/lang/String" "COMPACT_STRINGS" "Z" (.int z)) (Eb : Exa Z h0 b "java/lang/StringBuilder") (Fv : Fld Z h0 b "java/lang/AbstractStringBuilder" "value" "[B" (.ref tb)) (Fc : Fld Z h0 b "java/lang/AbstractStringBuilder" "count" "I" (.int (Int32.ofNat k))) (Fk : Fld Z h0 b "java/lang/AbstractStringBuilder" "coder" "B" (.int (0 : Int32))) (At : Arv Z h0 tb kt .byte (16 : Int32) ((cs.map StrChars.lo8).map Value.int) (.int 0)) (gb : n0 ≤ b) (gt : n0 ≤ tb) (nbt : b ≠ tb) (hk : cs.length = k) (Ex : Exa Z h0 x "java/lang/String") (Cx : Fld Z h0 x "java/lang/String" "coder" "B" (.int (0 : Int32))) (Vx : Fld Z h0 x "java/lang/String" "value" "[B" (.ref tx)) (Kx : Arv Z h0 tx kx .byte (Int32.ofNat n) ((ds.map StrChars.lo8).map Value.int) (.int 0)) (hnx : ds.length = n) (nxt : tx ≠ tb) (nxb : tx ≠ b) (nyt : x ≠ tb) (nyb : x ≠ b) (hkn : k + n ≤ 16) :
    own_M l (⟨"java/lang/AbstractStringBuilder", "append", "(Ljava/lang/String;)Ljava/lang/AbstractStringBuilder;"⟩ : MethodName) jdk_68_method_22_code 3 (some (.object "java/lang/AbstractStringBuilder")) ws ({ frames := 3, cells := 0, slots := 0, locals := 47 } : Room) #[(.ref b), (.ref x)] Z h0 (QQan16 Z b x z tb kt k cs tx kx n ds h0 n0) := by
  refine MetFree.of_bodySF (plainFor_of_name pn_0) hisR ?_
  intro p e s m args below meth cd s₁ Bd hml hP hK
  obtain ⟨rfl, hZ, hh⟩ := hP
  obtain ⟨X0, e0, H, hlk, hown, hret⟩ := own_start (R := ({ frames := 3, cells := 0, slots := 0, locals := 47 } : Room)) Bd hh rfl
  have hx := H.1; have hby := H.2; have N0 := Fr.nil n0
  show own_Fin p e below (own_Ans s (QQan16 Z b x z tb kt k cs tx kx n ds h0 n0) ({ frames := 3, cells := 0, slots := 0, locals := 47 } : Room).cells ({ frames := 3, cells := 0, slots := 0, locals := 47 } : Room).slots) (s₁.setTop (entryFrame m #[(.ref b), (.ref x)] 3))
  refine own_cast (ef_rmQan16 m b x) ?_
  show own_Fin p e below _ (s₁.setTop (mkF m 0 #[.val (.ref b), .val (.ref x), .unset] []))
  refine o_aldN X0 H (od dB14 0 rfl) rfl rfl ?_
  refine own_on (fun tq => XS.ifnonnullYes X0.here hx rfl (pc0 := 1) (pc' := 9) rfl (hb hby (od dB14 1 rfl)) rfl (by decide) (by decide)) ?_
  show own_Fin p e below _ (s₁.setTop (mkF m 9 #[.val (.ref b), .val (.ref x), .unset] []))
  refine o_aldN X0 H (od dB14 5 rfl) rfl rfl ?_
  refine o_vs (argsL := []) (rest := []) X0 H hml hZ hown (ow hw 79 rfl) (ow hw 80 rfl) (ow hw 82 rfl) (ow hw 81 rfl) (backOf (W := 0) (rm15 l Z a0 hw [] x z tx kx n ds h0 n0 (by exact Z0) hz O SC Ex Cx Vx Kx hnx) hZ (ow hw 83 rfl) (ow hw 6 rfl) (by decide) (by decide)) (by decide) Ex e0 pd_1 (od dB14 6 rfl) rfl rfl rfl rfl rfl (by decide) (by decide) (o_pk (fun _ _ _ q => q) N0 fun T37 Lc37 X37 N37 e37 => ?_)
  refine o_istN X37 H (od dB14 7 rfl) (L' := #[.val (.ref b), .val (.ref x), .val (.int (Int32.ofNat n))]) rfl ?_
  refine o_aldN X37 H (od dB14 8 rfl) rfl rfl ?_
  refine o_aldN X37 H (od dB14 9 rfl) rfl rfl ?_
  refine o_gf X37 H hZ hown (ow hw 89 rfl) Via.refl e37 Fc (od dB14 10 rfl) fun T38 X38 e38 => ?_
  refine o_ildN X38 H (od dB14 11 rfl) rfl ?_
  refine o_iadd X38 H (od dB14 12 rfl) ?_
  rw [own_add]
  show own_Fin p e below _ (T38.setTop (mkF m 21 #[.val (.ref b), .val (.ref x), .val (.int (Int32.ofNat n))] [(.int (Int32.ofNat (k + n))), (.ref b)]))
  refine o_pc (argsL := [(.int (Int32.ofNat (k + n)))]) (rest := []) X38 H hml hZ hown (ow hw 91 rfl) (ow hw 92 rfl) (own_selfsel (mvT hZ (ow hw 94 rfl)) (Cond.privateMethod_at (mvP hZ (ow hw 93 rfl) (args := #[]))) (mvT hZ (ow hw 92 rfl)) (by decide)) (ow hw 93 rfl) (ow hw 95 rfl) (backOf (W := 0) (rmEn16 l Z a0 hw [] b tb kt _ (k + n) h0 n0 (by exact Z0) Fv Fk At (by omega)) hZ (ow hw 95 rfl) (ow hw 61 rfl) (by decide) (by decide)) (by decide) Eb e38 pd_0 (od dB14 13 rfl) rfl rfl rfl rfl rfl (by decide) (by decide) (o_pv (fun _ _ _ q => q) N37 fun T39 Lc39 X39 N39 e39 => ?_)
  refine o_aldN X39 H (od dB14 14 rfl) rfl rfl ?_
  refine o_aldN X39 H (od dB14 15 rfl) rfl rfl ?_
  refine o_gf X39 H hZ hown (ow hw 89 rfl) Via.refl e39 Fc (od dB14 16 rfl) fun T40 X40 e40 => ?_
  refine o_aldN X40 H (od dB14 17 rfl) rfl rfl ?_
  refine o_pc (argsL := [(.int (Int32.ofNat k)), (.ref x)]) (rest := []) X40 H hml hZ hown (ow hw 96 rfl) (ow hw 97 rfl) (own_selfsel (mvT hZ (ow hw 99 rfl)) (Cond.privateMethod_at (mvP hZ (ow hw 98 rfl) (args := #[]))) (mvT hZ (ow hw 97 rfl)) (by decide)) (ow hw 98 rfl) (ow hw 100 rfl) (backOf (W := 0) (rm18 l Z a0 hw [] b x z tb kt k cs 16 tx kx n ds h0 n0 (by exact Z0) hz O SC Eb Fv Fc Fk At gb gt nbt hk Ex Cx Vx Kx hnx nxt nxb nyt nyb (by omega) (by omega)) hZ (ow hw 100 rfl) (ow hw 61 rfl) (by decide) (by decide)) (by decide) Eb e40 pd_5 (od dB14 18 rfl) rfl rfl rfl rfl rfl (by decide) (by decide) fun _ T41 Lc41 X41 hQ41 => ?_
  obtain ⟨rfl, N41q, K41, Aq41⟩ := hQ41
  have N41 := Fr.app N39 N41q
  have Ar41 : Arv Z T41.heap tb kt .byte (16 : Int32) (((cs ++ ds).map StrChars.lo8).map Value.int) (.int 0) := Aq41
  show own_Fin p e below _ (T41.setTop (mkF m 33 #[.val (.ref b), .val (.ref x), .val (.int (Int32.ofNat n))] []))
  refine o_aldN X41 H (od dB14 19 rfl) rfl rfl ?_
  refine o_dup X41 H (od dB14 20 rfl) rfl ?_
  refine o_gf X41 H hZ hown (ow hw 89 rfl) Via.refl rfl (Fc.keep K41 (ninS nbt nin0)) (od dB14 21 rfl) fun T42 X42 e42 => ?_
  refine o_ildN X42 H (od dB14 22 rfl) rfl ?_
  refine o_iadd X42 H (od dB14 23 rfl) ?_
  rw [own_add]
  show own_Fin p e below _ (T42.setTop (mkF m 40 #[.val (.ref b), .val (.ref x), .val (.int (Int32.ofNat n))] [(.int (Int32.ofNat (k + n))), (.ref b)]))
  obtain ⟨T43, h43, X43, e43, W43, st43⟩ := putF X42 hx hZ hown (host := "") (Or.inl (ow hw 89 rfl)) Via.refl e42 (Fc.keep K41 (ninS nbt nin0)) (Eb.keep K41) (Or.inl (ow hw 90 rfl)) (ow hw 52 rfl) (ty := .int) (by decide) rfl rfl (g := (mkF m 40 #[.val (.ref b), .val (.ref x), .val (.int (Int32.ofNat n))] [(.int (Int32.ofNat (k + n))), (.ref b)])) rfl rfl (hb hby (od dB14 24 rfl))
  have N43 := Fr.snoc X43 N41 gb
  have y44 := (((Keep.refl h0 [b, tb]).trans K41 (allS (Or.inl (List.mem_of_getElem? (i := 1) rfl)) all0)).wr W43 (Or.inl (List.mem_of_getElem? (i := 0) rfl)))
  have y45 := ((Fv.keep K41 (ninS nbt nin0)).other W43 (Or.inr (slot_ne (Or.inl (ow hw 66 rfl)) (Or.inl (ow hw 90 rfl)) (by decide) (t := (.array .byte)) (t' := .int) (by decide) (by decide))))
  have y46 := ((Fk.keep K41 (ninS nbt nin0)).other W43 (Or.inr (slot_ne (Or.inl (ow hw 68 rfl)) (Or.inl (ow hw 90 rfl)) (by decide) (t := .byte) (t' := .int) (by decide) (by decide))))
  refine own_on st43 ?_
  show own_Fin p e below _ (T43.setTop (mkF m 43 #[.val (.ref b), .val (.ref x), .val (.int (Int32.ofNat n))] []))
  refine o_aldN X43 H (od dB14 25 rfl) rfl rfl ?_
  exact own_ret (t := (.object "java/lang/AbstractStringBuilder")) X43 hx hlk hret rfl (Or.inr (Or.inr (Or.inr (Or.inr ⟨rfl, rfl, rfl⟩)))) (hb hby (od dB14 26 rfl)) (by show QQan16 Z b x z tb kt k cs tx kx n ds h0 n0 _ T43.heap _; rw [e43]; exact ⟨rfl, N43, y44, ((Eb.keep K41).wr W43), y45, ((Fc.keep K41 (ninS nbt nin0)).same W43), y46, (Ar41.other W43 (Ne.symm nbt))⟩) (by decide) (by decide)
theorem dB13 : oL jdk_67_method_7_code [(0, .aload_n 0, 1), (1, .aload_n 1, 1), (2, .invokespecial 29, 3), (5, .pop, 1), (6, .aload_n 0, 1), (7, .areturn, 1)] := by unfold oL; decide +kernel
theorem pd_6 : parseMethodDescriptor "(Ljava/lang/String;)Ljava/lang/AbstractStringBuilder;" = some ⟨[(.object "java/lang/String")], some (.object "java/lang/AbstractStringBuilder")⟩ := by decide +kernel
theorem ef_rmQbn16 (m : MethodId) (x0 : Addr) (x1 : Addr) : entryFrame m #[(.ref x0), (.ref x1)] 2 = mkF m 0 #[.val (.ref x0), .val (.ref x1)] [] := by first | (simp [entryFrame, mkF, argsToLocals, Value.category]; done) | rfl
def QQbn16 (Z : State) (b : Addr) (x : Addr) (z : Int32) (tb : Addr) (kt : ClassId) (k : Nat) (cs : List Int32) (tx : Addr) (kx : ClassId) (n : Nat) (ds : List Int32) (h0 : Heap) (n0 : Nat) (v : Option Value) (h : Heap) (L : List Loc) : Prop := v = some (.ref b) ∧ Fr n0 L ∧ Keep h0 h [b, tb] ∧ Exa Z h b "java/lang/StringBuilder" ∧ Fld Z h b "java/lang/AbstractStringBuilder" "value" "[B" (.ref tb) ∧ Fld Z h b "java/lang/AbstractStringBuilder" "count" "I" (.int (Int32.ofNat (k + n))) ∧ Fld Z h b "java/lang/AbstractStringBuilder" "coder" "B" (.int (0 : Int32)) ∧ Arv Z h tb kt .byte (16 : Int32) (((cs ++ ds).map StrChars.lo8).map Value.int) (.int 0)
set_option maxRecDepth 65536 in
set_option maxHeartbeats 40000000 in
theorem rmQbn16 (l : Launch) (Z : State) (a0 : Array Value) (hw : ∀ d ∈ tables_1, d.before a0 Z = true) (ws : List Jvm.Cond) (b : Addr) (x : Addr) (z : Int32) (tb : Addr) (kt : ClassId) (k : Nat) (cs : List Int32) (tx : Addr) (kx : ClassId) (n : Nat) (ds : List Int32) (h0 : Heap) (n0 : Nat) (Z0 : n0 ≤ h0.size) (hz : ¬ z = (0 : Int32)) (O : Old Z n0 h0) (SC : Sta Z Z.heap "java/lang/String" "COMPACT_STRINGS" "Z" (.int z)) (Eb : Exa Z h0 b "java/lang/StringBuilder") (Fv : Fld Z h0 b "java/lang/AbstractStringBuilder" "value" "[B" (.ref tb)) (Fc : Fld Z h0 b "java/lang/AbstractStringBuilder" "count" "I" (.int (Int32.ofNat k))) (Fk : Fld Z h0 b "java/lang/AbstractStringBuilder" "coder" "B" (.int (0 : Int32))) (At : Arv Z h0 tb kt .byte (16 : Int32) ((cs.map StrChars.lo8).map Value.int) (.int 0)) (gb : n0 ≤ b) (gt : n0 ≤ tb) (nbt : b ≠ tb) (hk : cs.length = k) (Ex : Exa Z h0 x "java/lang/String") (Cx : Fld Z h0 x "java/lang/String" "coder" "B" (.int (0 : Int32))) (Vx : Fld Z h0 x "java/lang/String" "value" "[B" (.ref tx)) (Kx : Arv Z h0 tx kx .byte (Int32.ofNat n) ((ds.map StrChars.lo8).map Value.int) (.int 0)) (hnx : ds.length = n) (nxt : tx ≠ tb) (nxb : tx ≠ b) (nyt : x ≠ tb) (nyb : x ≠ b) (hkn : k + n ≤ 16) :
    own_M l (⟨"java/lang/StringBuilder", "append", "(Ljava/lang/String;)Ljava/lang/StringBuilder;"⟩ : MethodName) jdk_67_method_7_code 2 (some (.object "java/lang/StringBuilder")) ws ({ frames := 4, cells := 0, slots := 0, locals := 61 } : Room) #[(.ref b), (.ref x)] Z h0 (QQbn16 Z b x z tb kt k cs tx kx n ds h0 n0) := by
  refine MetFree.of_bodySF (plainFor_of_name pn_1) hisR ?_
  intro p e s m args below meth cd s₁ Bd hml hP hK
  obtain ⟨rfl, hZ, hh⟩ := hP
  obtain ⟨X0, e0, H, hlk, hown, hret⟩ := own_start (R := ({ frames := 4, cells := 0, slots := 0, locals := 61 } : Room)) Bd hh rfl
  have hx := H.1; have hby := H.2; have N0 := Fr.nil n0
  show own_Fin p e below (own_Ans s (QQbn16 Z b x z tb kt k cs tx kx n ds h0 n0) ({ frames := 4, cells := 0, slots := 0, locals := 61 } : Room).cells ({ frames := 4, cells := 0, slots := 0, locals := 61 } : Room).slots) (s₁.setTop (entryFrame m #[(.ref b), (.ref x)] 2))
  refine own_cast (ef_rmQbn16 m b x) ?_
  show own_Fin p e below _ (s₁.setTop (mkF m 0 #[.val (.ref b), .val (.ref x)] []))
  refine o_aldN X0 H (od dB13 0 rfl) rfl rfl ?_
  refine o_aldN X0 H (od dB13 1 rfl) rfl rfl ?_
  refine o_bk (superBack X0 hx hZ (y := (⟨"java/lang/AbstractStringBuilder", "append", "(Ljava/lang/String;)Ljava/lang/AbstractStringBuilder;"⟩ : MethodName)) hown (ow hw 74 rfl) (own_same (ow hw 77 rfl) (ow hw 94 rfl) rfl (by decide)) (ow hw 75 rfl) (ow hw 76 rfl) (by decide) (backOf (W := 0) (rmQan16 l Z a0 hw [] b x z tb kt k cs tx kx n ds h0 n0 (by exact Z0) hz O SC Eb Fv Fc Fk At gb gt nbt hk Ex Cx Vx Kx hnx nxt nxb nyt nyb (by omega)) hZ (ow hw 78 rfl) (ow hw 61 rfl) (by decide) (by decide)) e0 (Ins.self Eb) rfl (by exact hml.symm) (ow hw 78 rfl) (argsL := [(.ref x)]) (rest := []) (lenOf pd_6 rfl) rfl (o_mr rfl) (hb hby (od dB13 2 rfl)) (fun _ _ => ⟨rfl, e0, (by decide : 0 + 0 ≤ _), (by decide : 0 + 0 ≤ _)⟩)) fun _ T47 Lc47 X47 hQ47 => ?_
  have Lq47 : (cs ++ ds).length = (k + n) := own_la hk hnx
  obtain ⟨rfl, N47q, K47, Eq47, Vq47, Cq47, Dq47, Aq47⟩ := hQ47
  have N47 := Fr.app N0 N47q
  have y48 := ((Keep.refl h0 [b, tb]).trans K47 (allS (Or.inl (List.mem_of_getElem? (i := 0) rfl)) (allS (Or.inl (List.mem_of_getElem? (i := 1) rfl)) all0)))
  show own_Fin p e below _ (T47.setTop (mkF m 5 #[.val (.ref b), .val (.ref x)] [(.ref b)]))
  refine o_pop X47 H (od dB13 3 rfl) rfl ?_
  refine o_aldN X47 H (od dB13 4 rfl) rfl rfl ?_
  exact own_ret (t := (.object "java/lang/StringBuilder")) X47 hx hlk hret rfl (Or.inr (Or.inr (Or.inr (Or.inr ⟨rfl, rfl, rfl⟩)))) (hb hby (od dB13 5 rfl)) (by show QQbn16 Z b x z tb kt k cs tx kx n ds h0 n0 _ T47.heap _; exact ⟨rfl, N47, y48, Eq47, Vq47, Cq47, Dq47, Aq47⟩) (by decide) (by decide)
theorem pn_3 : plainName "java/util/Arrays" = true := by first | (simp [plainName, overriddenIn]; done) | decide +kernel
theorem dB30 : oL jdk_65_method_131_code [(0, .iload_n 1, 1), (1, .iload_n 0, 1), (2, .if_icmp .ge 35, 3), (5, .new 43, 3), (8, .dup, 1), (9, .new 45, 3), (12, .dup, 1), (13, .invokespecial 47, 3), (16, .iload_n 0, 1), (17, .invokevirtual 54, 3), (20, .ldc_w 337, 3), (23, .invokevirtual 50, 3), (26, .iload_n 1, 1), (27, .invokevirtual 54, 3), (30, .invokevirtual 61, 3), (33, .invokespecial 65, 3), (36, .athrow, 1), (37, .return_, 1)] := by unfold oL; decide +kernel
theorem ef_rm30 (m : MethodId) (x0 : Int32) (x1 : Int32) : entryFrame m #[(.int x0), (.int x1)] 2 = mkF m 0 #[.val (.int x0), .val (.int x1)] [] := by first | (simp [entryFrame, mkF, argsToLocals, Value.category]; done) | rfl
def Q30 (Z : State) (k : Nat) (h0 : Heap) (n0 : Nat) (v : Option Value) (h : Heap) (L : List Loc) : Prop := v = none ∧ Fr n0 L ∧ h = h0
set_option maxRecDepth 65536 in
set_option maxHeartbeats 40000000 in
theorem rm30 (l : Launch) (Z : State) (a0 : Array Value) (hw : ∀ d ∈ tables_1, d.before a0 Z = true) (ws : List Jvm.Cond) (k : Nat) (h0 : Heap) (n0 : Nat) (Z0 : n0 ≤ h0.size) (hk9 : k < 1000) :
    own_M l (⟨"java/util/Arrays", "checkLength", "(II)V"⟩ : MethodName) jdk_65_method_131_code 2 none ws ({ frames := 0, cells := 0, slots := 0, locals := 0 } : Room) #[(.int (0 : Int32)), (.int (Int32.ofNat k))] Z h0 (Q30 Z k h0 n0) := by
  refine MetFree.of_bodySF (plainFor_of_name pn_3) hisR ?_
  intro p e s m args below meth cd s₁ Bd hml hP hK
  obtain ⟨rfl, hZ, hh⟩ := hP
  obtain ⟨X0, e0, H, hlk, hown, hret⟩ := own_start (R := ({ frames := 0, cells := 0, slots := 0, locals := 0 } : Room)) Bd hh rfl
  have hx := H.1; have hby := H.2; have N0 := Fr.nil n0
  show own_Fin p e below (own_Ans s (Q30 Z k h0 n0) ({ frames := 0, cells := 0, slots := 0, locals := 0 } : Room).cells ({ frames := 0, cells := 0, slots := 0, locals := 0 } : Room).slots) (s₁.setTop (entryFrame m #[(.int (0 : Int32)), (.int (Int32.ofNat k))] 2))
  refine own_cast (ef_rm30 m (0 : Int32) (Int32.ofNat k)) ?_
  show own_Fin p e below _ (s₁.setTop (mkF m 0 #[.val (.int (0 : Int32)), .val (.int (Int32.ofNat k))] []))
  refine o_ildN X0 H (od dB30 0 rfl) rfl ?_
  refine o_ildN X0 H (od dB30 1 rfl) rfl ?_
  refine o_icY X0 H (od dB30 2 rfl) (flt (own_nneg (by omega))).2.1 (pc' := 37) (by decide) (by decide) ?_
  exact own_retV X0 hx hlk hret (hb hby (od dB30 17 rfl)) (⟨rfl, N0, e0⟩) (by decide) (by decide)
theorem dB29 : oL jdk_65_method_133_code [(0, .iload_n 1, 1), (1, .iload_n 2, 1), (2, .invokestatic 343, 3), (5, .iload_n 2, 1), (6, .iload_n 1, 1), (7, .isub, 1), (8, .istore_n 3, 1), (9, .iload_n 3, 1), (10, .newarray .byte, 2), (12, .astore 4, 2), (14, .aload_n 0, 1), (15, .iload_n 1, 1), (16, .aload 4, 2), (18, .iconst 0, 1), (19, .aload_n 0, 1), (20, .arraylength, 1), (21, .iload_n 1, 1), (22, .isub, 1), (23, .iload_n 3, 1), (24, .invokestatic 304, 3), (27, .invokestatic 150, 3), (30, .aload 4, 2), (32, .areturn, 1)] := by unfold oL; decide +kernel
theorem pd_7 : parseMethodDescriptor "(II)V" = some ⟨[.int, .int], none⟩ := by decide +kernel
theorem pd_8 : parseMethodDescriptor "(II)I" = some ⟨[.int, .int], some .int⟩ := by decide +kernel
theorem ef_rmCb (m : MethodId) (x0 : Addr) (x1 : Int32) (x2 : Int32) : entryFrame m #[(.ref x0), (.int x1), (.int x2)] 5 = mkF m 0 #[.val (.ref x0), .val (.int x1), .val (.int x2), .unset, .unset] [] := by first | (simp [entryFrame, mkF, argsToLocals, Value.category]; done) | rfl
def QCb (Z : State) (tb : Addr) (kt : ClassId) (k : Nat) (cs : List Int32) (c : Nat) (h0 : Heap) (n0 : Nat) (v : Option Value) (h : Heap) (L : List Loc) : Prop := ∃ (x : Addr) (kx : ClassId), v = some (.ref x) ∧ Fr n0 L ∧ Keep h0 h [] ∧ n0 ≤ x ∧ h0.size ≤ x ∧ Arv Z h x kx .byte (Int32.ofNat k) ((cs.map StrChars.lo8).map Value.int) (.int 0)
set_option maxRecDepth 65536 in
set_option maxHeartbeats 40000000 in
theorem rmCb (l : Launch) (Z : State) (a0 : Array Value) (hw : ∀ d ∈ tables_1, d.before a0 Z = true) (ws : List Jvm.Cond) (tb : Addr) (kt : ClassId) (k : Nat) (cs : List Int32) (c : Nat) (h0 : Heap) (n0 : Nat) (Z0 : n0 ≤ h0.size) (At : Arv Z h0 tb kt .byte (Int32.ofNat c) ((cs.map StrChars.lo8).map Value.int) (.int 0)) (hk : cs.length = k) (hkc : k < c) (hkm : k ≤ 8) (hc : c < 1000) :
    own_M l (⟨"java/util/Arrays", "copyOfRangeByte", "([BII)[B"⟩ : MethodName) jdk_65_method_133_code 5 (some (.array .byte)) ws ({ frames := 1, cells := 1, slots := 8, locals := 18 } : Room) #[(.ref tb), (.int (0 : Int32)), (.int (Int32.ofNat k))] Z h0 (QCb Z tb kt k cs c h0 n0) := by
  refine MetFree.of_bodySF (plainFor_of_name pn_3) hisR ?_
  intro p e s m args below meth cd s₁ Bd hml hP hK
  obtain ⟨rfl, hZ, hh⟩ := hP
  obtain ⟨X0, e0, H, hlk, hown, hret⟩ := own_start (R := ({ frames := 1, cells := 1, slots := 8, locals := 18 } : Room)) Bd hh rfl
  have hx := H.1; have hby := H.2; have N0 := Fr.nil n0
  show own_Fin p e below (own_Ans s (QCb Z tb kt k cs c h0 n0) ({ frames := 1, cells := 1, slots := 8, locals := 18 } : Room).cells ({ frames := 1, cells := 1, slots := 8, locals := 18 } : Room).slots) (s₁.setTop (entryFrame m #[(.ref tb), (.int (0 : Int32)), (.int (Int32.ofNat k))] 5))
  refine own_cast (ef_rmCb m tb (0 : Int32) (Int32.ofNat k)) ?_
  show own_Fin p e below _ (s₁.setTop (mkF m 0 #[.val (.ref tb), .val (.int (0 : Int32)), .val (.int (Int32.ofNat k)), .unset, .unset] []))
  refine o_ildN X0 H (od dB29 0 rfl) rfl ?_
  refine o_ildN X0 H (od dB29 1 rfl) rfl ?_
  refine o_tc (argsL := [(.int (0 : Int32)), (.int (Int32.ofNat k))]) (rest := []) X0 H hml hZ hown (ow hw 154 rfl) (ow hw 155 rfl) (ow hw 149 rfl) (ow hw 156 rfl) (backOf (W := 0) (rm30 l Z a0 hw [] k h0 n0 (by exact Z0) (by omega)) hZ (ow hw 156 rfl) (ow hw 149 rfl) (by decide) (by decide)) (by decide) e0 pd_7 (od dB29 2 rfl) rfl rfl rfl rfl rfl (by decide) (by decide) (o_pv (fun _ _ _ q => q) N0 fun T49 Lc49 X49 N49 e49 => ?_)
  refine o_ildN X49 H (od dB29 3 rfl) rfl ?_
  refine o_ildN X49 H (od dB29 4 rfl) rfl ?_
  refine o_isub X49 H (od dB29 5 rfl) ?_
  rw [Int32.sub_zero]
  show own_Fin p e below _ (T49.setTop (mkF m 8 #[.val (.ref tb), .val (.int (0 : Int32)), .val (.int (Int32.ofNat k)), .unset, .unset] [(.int (Int32.ofNat k))]))
  refine o_istN X49 H (od dB29 6 rfl) (L' := #[.val (.ref tb), .val (.int (0 : Int32)), .val (.int (Int32.ofNat k)), .val (.int (Int32.ofNat k)), .unset]) rfl ?_
  refine o_ildN X49 H (od dB29 7 rfl) rfl ?_
  obtain ⟨T50, h50, k50, X50, e50, E50, A50, st50⟩ := newP X49 hx hZ (ow hw 19 rfl) e49 (g := (mkF m 10 #[.val (.ref tb), .val (.int (0 : Int32)), .val (.int (Int32.ofNat k)), .val (.int (Int32.ofNat k)), .unset] [(.int (Int32.ofNat k))])) rfl (hb hby (od dB29 8 rfl)) rfl (own_nneg (by omega)) (cap := 8) (by rw [own_clampN (by omega)]; exact hkm) (by decide) (by decide) (by decide)
  obtain ⟨b50, g50⟩ : ∃ z, z = h0.size := ⟨_, rfl⟩
  rw [← g50] at A50 st50
  have ne50_tb : tb ≠ b50 := own_ne_of (Z := Z) At.lt g50
  have gn50 : n0 ≤ b50 := Nat.le_trans Z0 (Nat.le_of_eq g50.symm)
  have gk50 : h0.size ≤ b50 := Nat.le_trans (Keep.refl h0 []).1 (Nat.le_of_eq g50.symm)
  have V50 : Arv Z h50 b50 k50 .byte (Int32.ofNat k) [] (.int (0 : Int32)) := Arv.new A50 (own_nneg (by omega))
  refine own_on st50 ?_
  show own_Fin p e below _ (T50.setTop (mkF m 12 #[.val (.ref tb), .val (.int (0 : Int32)), .val (.int (Int32.ofNat k)), .val (.int (Int32.ofNat k)), .unset] [(.ref b50)]))
  refine o_ast X50 H (od dB29 9 rfl) (L' := #[.val (.ref tb), .val (.int (0 : Int32)), .val (.int (Int32.ofNat k)), .val (.int (Int32.ofNat k)), .val (.ref b50)]) rfl rfl ?_
  refine o_aldN X50 H (od dB29 10 rfl) rfl rfl ?_
  refine o_ildN X50 H (od dB29 11 rfl) rfl ?_
  refine o_ald X50 H (od dB29 12 rfl) rfl rfl ?_
  refine o_ic X50 H (od dB29 13 rfl) (v := 0) rfl ?_
  refine o_aldN X50 H (od dB29 14 rfl) rfl rfl ?_
  have cp51 := (At.ext E50)
  obtain ⟨cl51, Ar51, q51, S51, G51, H51, F51⟩ := cp51
  refine own_on (fun tq => X50.arraylength hx (by rw [e50]; exact Ar51.1) (State.isArrayOf_alike hZ.alike Ar51.2.1) (g := (mkF m 20 #[.val (.ref tb), .val (.int (0 : Int32)), .val (.int (Int32.ofNat k)), .val (.int (Int32.ofNat k)), .val (.ref b50)] [(.ref tb), (.int (0 : Int32)), (.ref b50), (.int (0 : Int32)), (.ref tb)])) rfl rfl (hb hby (od dB29 15 rfl)) tq) ?_
  rw [len_of S51 G51]
  show own_Fin p e below _ (T50.setTop (mkF m 21 #[.val (.ref tb), .val (.int (0 : Int32)), .val (.int (Int32.ofNat k)), .val (.int (Int32.ofNat k)), .val (.ref b50)] [(.int (Int32.ofNat c)), (.int (0 : Int32)), (.ref b50), (.int (0 : Int32)), (.ref tb)]))
  refine o_ildN X50 H (od dB29 16 rfl) rfl ?_
  refine o_isub X50 H (od dB29 17 rfl) ?_
  rw [Int32.sub_zero]
  show own_Fin p e below _ (T50.setTop (mkF m 23 #[.val (.ref tb), .val (.int (0 : Int32)), .val (.int (Int32.ofNat k)), .val (.int (Int32.ofNat k)), .val (.ref b50)] [(.int (Int32.ofNat c)), (.int (0 : Int32)), (.ref b50), (.int (0 : Int32)), (.ref tb)]))
  refine o_ildN X50 H (od dB29 18 rfl) rfl ?_
  refine o_tc (argsL := [(.int (Int32.ofNat c)), (.int (Int32.ofNat k))]) (rest := [(.int (0 : Int32)), (.ref b50), (.int (0 : Int32)), (.ref tb)]) X50 H hml hZ hown (ow hw 157 rfl) (ow hw 158 rfl) (ow hw 159 rfl) (ow hw 160 rfl) (backOf (W := 4) (rmMb l Z a0 hw [] (Int32.ofNat c) (Int32.ofNat k) h50 n0 (by exact (Nat.le_trans Z0 E50.1)) (own_olt hkc (by omega))) hZ (ow hw 160 rfl) (ow hw 159 rfl) (by decide) (by decide)) (by decide) e50 pd_8 (od dB29 19 rfl) rfl rfl rfl rfl rfl (by decide) (by decide) (o_pk (fun _ _ _ q => q) N49 fun T52 Lc52 X52 N52 e52 => ?_)
  obtain ⟨T53, h53, L53, X53, e53, N53, K53, A53, st53⟩ := own_cpNew X52 hx hZ hown (ow hw 161 rfl) (ow hw 115 rfl) (ow hw 113 rfl) (ow hw 114 rfl) e52 (At.ext E50) V50 (q := k) (c1 := c) (c2 := k) (by rw [own_vl, hk]; exact Nat.le_refl _) (by omega) (Nat.le_refl _) (by omega) (by omega) N52 gn50 (g := (mkF m 27 #[.val (.ref tb), .val (.int (0 : Int32)), .val (.int (Int32.ofNat k)), .val (.int (Int32.ofNat k)), .val (.ref b50)] [(.int (Int32.ofNat k)), (.int (0 : Int32)), (.ref b50), (.int (0 : Int32)), (.ref tb)])) rfl (by rw [hml]; rfl) rfl (hb hby (od dB29 20 rfl)) (by decide) (W := 0) (by show 2 * 0 + _ ≤ _; exact Nat.le_of_eq rfl) (by decide)
  refine own_on st53 ?_
  show own_Fin p e below _ (T53.setTop (mkF m 30 #[.val (.ref tb), .val (.int (0 : Int32)), .val (.int (Int32.ofNat k)), .val (.int (Int32.ofNat k)), .val (.ref b50)] []))
  refine o_ald X53 H (od dB29 21 rfl) rfl rfl ?_
  exact own_ret (t := (.array .byte)) X53 hx hlk hret rfl (Or.inr (Or.inr (Or.inr (Or.inr ⟨rfl, rfl, rfl⟩)))) (hb hby (od dB29 22 rfl)) (by show QCb Z tb kt k cs c h0 n0 _ T53.heap _; rw [e53]; exact ⟨b50, k50, rfl, N53, (((Keep.refl h0 []).ext E50).trans K53 (allS (Or.inr gk50) all0)), gn50, gk50, A53⟩) (by decide) (by decide)
theorem dB28 : oL jdk_65_method_132_code [(0, .iload_n 1, 1), (1, .ifCond .ne 9, 3), (4, .iload_n 2, 1), (5, .aload_n 0, 1), (6, .arraylength, 1), (7, .if_icmp .eq 10, 3), (10, .aload_n 0, 1), (11, .iload_n 1, 1), (12, .iload_n 2, 1), (13, .invokestatic 339, 3), (16, .areturn, 1), (17, .aload_n 0, 1), (18, .invokevirtual 310, 3), (21, .checkcast 311, 3), (24, .areturn, 1)] := by unfold oL; decide +kernel
theorem pd_9 : parseMethodDescriptor "([BII)[B" = some ⟨[(.array .byte), .int, .int], some (.array .byte)⟩ := by decide +kernel
theorem ef_rmCr (m : MethodId) (x0 : Addr) (x1 : Int32) (x2 : Int32) : entryFrame m #[(.ref x0), (.int x1), (.int x2)] 3 = mkF m 0 #[.val (.ref x0), .val (.int x1), .val (.int x2)] [] := by first | (simp [entryFrame, mkF, argsToLocals, Value.category]; done) | rfl
def QCr (Z : State) (tb : Addr) (kt : ClassId) (k : Nat) (cs : List Int32) (c : Nat) (h0 : Heap) (n0 : Nat) (v : Option Value) (h : Heap) (L : List Loc) : Prop := ∃ (x : Addr) (kx : ClassId), v = some (.ref x) ∧ Fr n0 L ∧ Keep h0 h [] ∧ n0 ≤ x ∧ h0.size ≤ x ∧ Arv Z h x kx .byte (Int32.ofNat k) ((cs.map StrChars.lo8).map Value.int) (.int 0)
set_option maxRecDepth 65536 in
set_option maxHeartbeats 40000000 in
theorem rmCr (l : Launch) (Z : State) (a0 : Array Value) (hw : ∀ d ∈ tables_1, d.before a0 Z = true) (ws : List Jvm.Cond) (tb : Addr) (kt : ClassId) (k : Nat) (cs : List Int32) (c : Nat) (h0 : Heap) (n0 : Nat) (Z0 : n0 ≤ h0.size) (At : Arv Z h0 tb kt .byte (Int32.ofNat c) ((cs.map StrChars.lo8).map Value.int) (.int 0)) (hk : cs.length = k) (hkc : k < c) (hkm : k ≤ 8) (hc : c < 1000) :
    own_M l (⟨"java/util/Arrays", "copyOfRange", "([BII)[B"⟩ : MethodName) jdk_65_method_132_code 3 (some (.array .byte)) ws ({ frames := 2, cells := 1, slots := 8, locals := 34 } : Room) #[(.ref tb), (.int (0 : Int32)), (.int (Int32.ofNat k))] Z h0 (QCr Z tb kt k cs c h0 n0) := by
  refine MetFree.of_bodySF (plainFor_of_name pn_3) hisR ?_
  intro p e s m args below meth cd s₁ Bd hml hP hK
  obtain ⟨rfl, hZ, hh⟩ := hP
  obtain ⟨X0, e0, H, hlk, hown, hret⟩ := own_start (R := ({ frames := 2, cells := 1, slots := 8, locals := 34 } : Room)) Bd hh rfl
  have hx := H.1; have hby := H.2; have N0 := Fr.nil n0
  show own_Fin p e below (own_Ans s (QCr Z tb kt k cs c h0 n0) ({ frames := 2, cells := 1, slots := 8, locals := 34 } : Room).cells ({ frames := 2, cells := 1, slots := 8, locals := 34 } : Room).slots) (s₁.setTop (entryFrame m #[(.ref tb), (.int (0 : Int32)), (.int (Int32.ofNat k))] 3))
  refine own_cast (ef_rmCr m tb (0 : Int32) (Int32.ofNat k)) ?_
  show own_Fin p e below _ (s₁.setTop (mkF m 0 #[.val (.ref tb), .val (.int (0 : Int32)), .val (.int (Int32.ofNat k))] []))
  refine o_ildN X0 H (od dB28 0 rfl) rfl ?_
  refine o_ifN X0 H (od dB28 1 rfl) ((if0 _ _).trans (teq (by decide : (0 : Int32) = (0 : Int32))).2) ?_
  refine o_ildN X0 H (od dB28 2 rfl) rfl ?_
  refine o_aldN X0 H (od dB28 3 rfl) rfl rfl ?_
  have cp54 := At
  obtain ⟨cl54, Ar54, q54, S54, G54, H54, F54⟩ := cp54
  refine own_on (fun tq => X0.arraylength hx (by rw [e0]; exact Ar54.1) (State.isArrayOf_alike hZ.alike Ar54.2.1) (g := (mkF m 6 #[.val (.ref tb), .val (.int (0 : Int32)), .val (.int (Int32.ofNat k))] [(.ref tb), (.int (Int32.ofNat k))])) rfl rfl (hb hby (od dB28 4 rfl)) tq) ?_
  rw [len_of S54 G54]
  show own_Fin p e below _ (s₁.setTop (mkF m 7 #[.val (.ref tb), .val (.int (0 : Int32)), .val (.int (Int32.ofNat k))] [(.int (Int32.ofNat c)), (.int (Int32.ofNat k))]))
  refine o_icN X0 H (od dB28 5 rfl) (feq (own_one (by omega) (by omega) (by omega))).1 ?_
  refine o_aldN X0 H (od dB28 6 rfl) rfl rfl ?_
  refine o_ildN X0 H (od dB28 7 rfl) rfl ?_
  refine o_ildN X0 H (od dB28 8 rfl) rfl ?_
  refine o_tc (argsL := [(.ref tb), (.int (0 : Int32)), (.int (Int32.ofNat k))]) (rest := []) X0 H hml hZ hown (ow hw 151 rfl) (ow hw 152 rfl) (ow hw 149 rfl) (ow hw 153 rfl) (backOf (W := 0) (rmCb l Z a0 hw [] tb kt k cs c h0 n0 (by exact Z0) At hk hkc hkm hc) hZ (ow hw 153 rfl) (ow hw 149 rfl) (by decide) (by decide)) (by decide) e0 pd_9 (od dB28 9 rfl) rfl rfl rfl rfl rfl (by decide) (by decide) fun _ T55 Lc55 X55 hQ55 => ?_
  obtain ⟨x55, kx55, rfl, N55q, K55, gn55, gk55, Aq55⟩ := hQ55
  have ne55_tb : tb ≠ x55 := Nat.ne_of_lt (Nat.lt_of_lt_of_le At.lt gk55)
  have N55 := Fr.app N0 N55q
  show own_Fin p e below _ (T55.setTop (mkF m 16 #[.val (.ref tb), .val (.int (0 : Int32)), .val (.int (Int32.ofNat k))] [(.ref x55)]))
  exact own_ret (t := (.array .byte)) X55 hx hlk hret rfl (Or.inr (Or.inr (Or.inr (Or.inr ⟨rfl, rfl, rfl⟩)))) (hb hby (od dB28 10 rfl)) (by show QCr Z tb kt k cs c h0 n0 _ T55.heap _; exact ⟨x55, kx55, rfl, N55, ((Keep.refl h0 []).trans K55 all0), gn55, (Nat.le_trans (Keep.refl h0 []).1 gk55), Aq55⟩) (by decide) (by decide)
theorem dB23 : oL jdk_42_method_150_code [(0, .aload_n 0, 1), (1, .invokespecial 1, 3), (4, .aload_n 1, 1), (5, .invokevirtual 552, 3), (8, .astore_n 3, 1), (9, .aload_n 1, 1), (10, .invokevirtual 549, 3), (13, .istore 4, 2), (15, .aload_n 1, 1), (16, .invokevirtual 1047, 3), (19, .ifCond .eq 22, 3), (22, .aload_n 0, 1), (23, .iconst 0, 1), (24, .putfield 15, 3), (27, .aload_n 0, 1), (28, .aload_n 3, 1), (29, .iconst 0, 1), (30, .iload 4, 2), (32, .invokestatic 54, 3), (35, .putfield 9, 3), (38, .goto 59, 3), (41, .getstatic 38, 3), (44, .ifCond .eq 35, 3), (47, .aload_n 1, 1), (48, .getfield 1048, 3), (51, .ifCond .eq 28, 3), (54, .aload_n 0, 1), (55, .aload_n 3, 1), (56, .iconst 0, 1), (57, .iload 4, 2), (59, .invokestatic 1051, 3), (62, .putfield 9, 3), (65, .aload_n 0, 1), (66, .aload_n 0, 1), (67, .getfield 9, 3), (70, .iload 4, 2), (72, .invokestatic 47, 3), (75, .putfield 15, 3), (78, .return_, 1), (79, .aload_n 0, 1), (80, .iconst 1, 1), (81, .putfield 15, 3), (84, .aload_n 0, 1), (85, .aload_n 3, 1), (86, .iconst 0, 1), (87, .iload 4, 2), (89, .iconst 1, 1), (90, .ishl, 1), (91, .invokestatic 54, 3), (94, .putfield 9, 3), (97, .return_, 1)] := by unfold oL; decide +kernel
theorem pd_10 : parseMethodDescriptor "()[B" = some ⟨[], some (.array .byte)⟩ := by decide +kernel
theorem pd_11 : parseMethodDescriptor "()Z" = some ⟨[], some .boolean⟩ := by decide +kernel
theorem ef_rmS2 (m : MethodId) (x0 : Addr) (x1 : Addr) : entryFrame m #[(.ref x0), (.ref x1), .null] 5 = mkF m 0 #[.val (.ref x0), .val (.ref x1), .val .null, .unset, .unset] [] := by first | (simp [entryFrame, mkF, argsToLocals, Value.category]; done) | rfl
def QS2 (Z : State) (a : Addr) (b : Addr) (z : Int32) (tb : Addr) (kt : ClassId) (k : Nat) (cs : List Int32) (c : Nat) (h0 : Heap) (n0 : Nat) (v : Option Value) (h : Heap) (L : List Loc) : Prop := ∃ (x : Addr) (kx : ClassId), v = none ∧ Fr n0 L ∧ Keep h0 h [a] ∧ h0.size ≤ x ∧ Exa Z h a "java/lang/String" ∧ Fld Z h a "java/lang/String" "coder" "B" (.int 0) ∧ Fld Z h a "java/lang/String" "value" "[B" (.ref x) ∧ Arv Z h x kx .byte (Int32.ofNat k) ((cs.map StrChars.lo8).map Value.int) (.int 0)
set_option maxRecDepth 65536 in
set_option maxHeartbeats 40000000 in
theorem rmS2 (l : Launch) (Z : State) (a0 : Array Value) (hw : ∀ d ∈ tables_1, d.before a0 Z = true) (ws : List Jvm.Cond) (a : Addr) (b : Addr) (z : Int32) (tb : Addr) (kt : ClassId) (k : Nat) (cs : List Int32) (c : Nat) (h0 : Heap) (n0 : Nat) (Z0 : n0 ≤ h0.size) (hz : ¬ z = (0 : Int32)) (O : Old Z n0 h0) (SC : Sta Z Z.heap "java/lang/String" "COMPACT_STRINGS" "Z" (.int z)) (Eb : Exa Z h0 b "java/lang/StringBuilder") (Fv : Fld Z h0 b "java/lang/AbstractStringBuilder" "value" "[B" (.ref tb)) (Fc : Fld Z h0 b "java/lang/AbstractStringBuilder" "count" "I" (.int (Int32.ofNat k))) (Fk : Fld Z h0 b "java/lang/AbstractStringBuilder" "coder" "B" (.int (0 : Int32))) (At : Arv Z h0 tb kt .byte (Int32.ofNat c) ((cs.map StrChars.lo8).map Value.int) (.int 0)) (gb : n0 ≤ b) (gt : n0 ≤ tb) (nbt : b ≠ tb) (hk : cs.length = k) (Ea : Exa Z h0 a "java/lang/String") (V0 : Fld Z h0 a "java/lang/String" "value" "[B" .null) (C0 : Fld Z h0 a "java/lang/String" "coder" "B" (.int (0 : Int32))) (ga : n0 ≤ a) (nab : a ≠ b) (nat : a ≠ tb) (hkc : k < c) (hkm : k ≤ 8) (hc : c < 1000) :
    own_M l (⟨"java/lang/String", "<init>", "(Ljava/lang/AbstractStringBuilder;Ljava/lang/Void;)V"⟩ : MethodName) jdk_42_method_150_code 5 none ws ({ frames := 3, cells := 1, slots := 8, locals := 49 } : Room) #[(.ref a), (.ref b), .null] Z h0 (QS2 Z a b z tb kt k cs c h0 n0) := by
  refine MetFree.of_bodySF (plainFor_of_name pn_2) hisR ?_
  intro p e s m args below meth cd s₁ Bd hml hP hK
  obtain ⟨rfl, hZ, hh⟩ := hP
  obtain ⟨X0, e0, H, hlk, hown, hret⟩ := own_start (R := ({ frames := 3, cells := 1, slots := 8, locals := 49 } : Room)) Bd hh rfl
  have hx := H.1; have hby := H.2; have N0 := Fr.nil n0
  have hnm := (name_of_methodNamed Bd.named Bd.method).1
  show own_Fin p e below (own_Ans s (QS2 Z a b z tb kt k cs c h0 n0) ({ frames := 3, cells := 1, slots := 8, locals := 49 } : Room).cells ({ frames := 3, cells := 1, slots := 8, locals := 49 } : Room).slots) (s₁.setTop (entryFrame m #[(.ref a), (.ref b), .null] 5))
  refine own_cast (ef_rmS2 m a b) ?_
  show own_Fin p e below _ (s₁.setTop (mkF m 0 #[.val (.ref a), .val (.ref b), .val .null, .unset, .unset] []))
  refine o_aldN X0 H (od dB23 0 rfl) rfl rfl ?_
  obtain ⟨T56, X56, e56, st56⟩ := initO X0 hx hZ hown (ow hw 15 rfl) (ow hw 16 rfl) (ow hw 17 rfl) e0 (g := (mkF m 1 #[.val (.ref a), .val (.ref b), .val .null, .unset, .unset] [(.ref a)])) rfl (by rw [hml]; rfl) rfl (hb hby (od dB23 1 rfl)) (by decide) (W := 0) (by show 2 * 0 + _ ≤ _; exact Nat.le_of_eq rfl) (by decide)
  refine own_on st56 ?_
  show own_Fin p e below _ (T56.setTop (mkF m 4 #[.val (.ref a), .val (.ref b), .val .null, .unset, .unset] []))
  refine o_aldN X56 H (od dB23 2 rfl) rfl rfl ?_
  refine o_vs (argsL := []) (rest := []) X56 H hml hZ hown (ow hw 129 rfl) (ow hw 130 rfl) (ow hw 132 rfl) (ow hw 131 rfl) (backOf (W := 0) (rm24 l Z a0 hw [] b tb h0 n0 (by exact Z0) Fv) hZ (ow hw 133 rfl) (ow hw 61 rfl) (by decide) (by decide)) (by decide) Eb e56 pd_10 (od dB23 3 rfl) rfl rfl rfl rfl rfl (by decide) (by decide) (o_pk (fun _ _ _ q => q) N0 fun T57 Lc57 X57 N57 e57 => ?_)
  refine o_astN X57 H (od dB23 4 rfl) (L' := #[.val (.ref a), .val (.ref b), .val .null, .val (.ref tb), .unset]) rfl rfl ?_
  refine o_aldN X57 H (od dB23 5 rfl) rfl rfl ?_
  refine o_vc (argsL := []) (rest := []) X57 H hml hZ hown (ow hw 134 rfl) (ow hw 135 rfl) (own_nf (a0 := #[]) (mvT hZ (ow hw 94 rfl)) rfl) (ow hw 137 rfl) (ow hw 138 rfl) (backOf (W := 0) (rm25 l Z a0 hw [] b (Int32.ofNat k) h0 n0 (by exact Z0) Eb Fc) hZ (ow hw 139 rfl) (ow hw 53 rfl) (by decide) (by decide)) (by decide) Eb e57 pd_1 (od dB23 6 rfl) rfl rfl rfl rfl rfl (by decide) (by decide) (o_pk (fun _ _ _ q => q) N57 fun T58 Lc58 X58 N58 e58 => ?_)
  refine o_ist X58 H (od dB23 7 rfl) (L' := #[.val (.ref a), .val (.ref b), .val .null, .val (.ref tb), .val (.int (Int32.ofNat k))]) rfl ?_
  refine o_aldN X58 H (od dB23 8 rfl) rfl rfl ?_
  refine o_vs (argsL := []) (rest := []) X58 H hml hZ hown (ow hw 142 rfl) (ow hw 143 rfl) (ow hw 145 rfl) (ow hw 144 rfl) (backOf (W := 0) (rm27 l Z a0 hw [] b z h0 n0 (by exact Z0) hz O SC Fk) hZ (ow hw 146 rfl) (ow hw 61 rfl) (by decide) (by decide)) (by decide) Eb e58 pd_11 (od dB23 9 rfl) rfl rfl rfl rfl rfl (by decide) (by decide) (o_pk (fun _ _ _ q => q) N58 fun T59 Lc59 X59 N59 e59 => ?_)
  refine o_ifN X59 H (od dB23 10 rfl) ((if0 _ _).trans (feq (by decide : ¬ ((1 : Int32) = (0 : Int32)))).1) ?_
  refine o_aldN X59 H (od dB23 11 rfl) rfl rfl ?_
  refine o_ic X59 H (od dB23 12 rfl) (v := 0) rfl ?_
  obtain ⟨T60, h60, X60, e60, W60, st60⟩ := putFN X59 hx hZ hown (ow hw 25 rfl) Via.refl e59 C0 Ea (Or.inr ⟨(ow hw 21 rfl), rfl, hnm⟩) (ow hw 5 rfl) (ty := .byte) (v' := (.int (0 : Int32))) (by decide) rfl (by decide) (g := (mkF m 24 #[.val (.ref a), .val (.ref b), .val .null, .val (.ref tb), .val (.int (Int32.ofNat k))] [(.int (0 : Int32)), (.ref a)])) rfl rfl (hb hby (od dB23 13 rfl))
  have N60 := Fr.snoc X60 N59 ga
  have y61 := (V0.other W60 (Or.inr (slot_ne (Or.inr (ow hw 20 rfl)) (Or.inr (ow hw 21 rfl)) (by decide) (t := (.array .byte)) (t' := .byte) (by decide) (by decide))))
  refine own_on st60 ?_
  show own_Fin p e below _ (T60.setTop (mkF m 27 #[.val (.ref a), .val (.ref b), .val .null, .val (.ref tb), .val (.int (Int32.ofNat k))] []))
  refine o_aldN X60 H (od dB23 14 rfl) rfl rfl ?_
  refine o_aldN X60 H (od dB23 15 rfl) rfl rfl ?_
  refine o_ic X60 H (od dB23 16 rfl) (v := 0) rfl ?_
  refine o_ild X60 H (od dB23 17 rfl) rfl ?_
  refine o_tc (argsL := [(.ref tb), (.int (0 : Int32)), (.int (Int32.ofNat k))]) (rest := [(.ref a)]) X60 H hml hZ hown (ow hw 147 rfl) (ow hw 148 rfl) (ow hw 149 rfl) (ow hw 150 rfl) (backOf (W := 1) (rmCr l Z a0 hw [] tb kt k cs c h60 n0 (by exact (Nat.le_trans Z0 (Keep.of_wr W60).1)) (At.other W60 (Ne.symm nat)) hk hkc hkm hc) hZ (ow hw 150 rfl) (ow hw 149 rfl) (by decide) (by decide)) (by decide) e60 pd_9 (od dB23 18 rfl) rfl rfl rfl rfl rfl (by decide) (by decide) fun _ T62 Lc62 X62 hQ62 => ?_
  obtain ⟨x62, kx62, rfl, N62q, K62, gn62, gk62, Aq62⟩ := hQ62
  have ne62_b : b ≠ x62 := Nat.ne_of_lt (Nat.lt_of_lt_of_le (Eb.wr W60).lt gk62)
  have ne62_tb : tb ≠ x62 := Nat.ne_of_lt (Nat.lt_of_lt_of_le (At.other W60 (Ne.symm nat)).lt gk62)
  have ne62_a : a ≠ x62 := Nat.ne_of_lt (Nat.lt_of_lt_of_le (Ea.wr W60).lt gk62)
  have N62 := Fr.app N60 N62q
  show own_Fin p e below _ (T62.setTop (mkF m 35 #[.val (.ref a), .val (.ref b), .val .null, .val (.ref tb), .val (.int (Int32.ofNat k))] [(.ref x62), (.ref a)]))
  obtain ⟨T63, h63, X63, e63, W63, st63⟩ := putF X62 hx hZ hown (host := "") (Or.inl (ow hw 24 rfl)) Via.refl rfl (y61.keep K62 nin0) ((Ea.wr W60).keep K62) (Or.inr ⟨(ow hw 20 rfl), rfl, hnm⟩) (ow hw 5 rfl) (ty := (.array .byte)) (by decide) rfl rfl (g := (mkF m 35 #[.val (.ref a), .val (.ref b), .val .null, .val (.ref tb), .val (.int (Int32.ofNat k))] [(.ref x62), (.ref a)])) rfl rfl (hb hby (od dB23 19 rfl))
  have N63 := Fr.snoc X63 N62 ga
  have y64 := ((((Keep.refl h0 [a]).wr W60 (Or.inl (List.mem_of_getElem? (i := 0) rfl))).trans K62 all0).wr W63 (Or.inl (List.mem_of_getElem? (i := 0) rfl)))
  have y65 := (((C0.same W60).keep K62 nin0).other W63 (Or.inr (slot_ne (Or.inr (ow hw 21 rfl)) (Or.inr (ow hw 20 rfl)) (by decide) (t := .byte) (t' := (.array .byte)) (by decide) (by decide))))
  refine own_on st63 ?_
  show own_Fin p e below _ (T63.setTop (mkF m 38 #[.val (.ref a), .val (.ref b), .val .null, .val (.ref tb), .val (.int (Int32.ofNat k))] []))
  refine o_go X63 H (od dB23 20 rfl) (pc' := 97) (by decide) (by decide) ?_
  exact own_retV X63 hx hlk hret (hb hby (od dB23 50 rfl)) (by show QS2 Z a b z tb kt k cs c h0 n0 _ T63.heap _; rw [e63]; exact ⟨x62, kx62, rfl, N63, y64, (Nat.le_trans ((Keep.refl h0 [a]).wr W60 (Or.inl (List.mem_of_getElem? (i := 0) rfl))).1 gk62), (((Ea.wr W60).keep K62).wr W63), y65, ((y61.keep K62 nin0).same W63), (Aq62.other W63 (Ne.symm ne62_a))⟩) (by decide) (by decide)
theorem dB22 : oL jdk_42_method_53_code [(0, .aload_n 0, 1), (1, .aload_n 1, 1), (2, .aconst_null, 1), (3, .invokespecial 489, 3), (6, .return_, 1)] := by unfold oL; decide +kernel
theorem pd_12 : parseMethodDescriptor "(Ljava/lang/AbstractStringBuilder;Ljava/lang/Void;)V" = some ⟨[(.object "java/lang/AbstractStringBuilder"), (.object "java/lang/Void")], none⟩ := by decide +kernel
theorem ef_rmS1 (m : MethodId) (x0 : Addr) (x1 : Addr) : entryFrame m #[(.ref x0), (.ref x1)] 2 = mkF m 0 #[.val (.ref x0), .val (.ref x1)] [] := by first | (simp [entryFrame, mkF, argsToLocals, Value.category]; done) | rfl
def QS1 (Z : State) (a : Addr) (b : Addr) (z : Int32) (tb : Addr) (kt : ClassId) (k : Nat) (cs : List Int32) (c : Nat) (h0 : Heap) (n0 : Nat) (v : Option Value) (h : Heap) (L : List Loc) : Prop := ∃ (x : Addr) (kx : ClassId), v = none ∧ Fr n0 L ∧ Keep h0 h [a] ∧ h0.size ≤ x ∧ Exa Z h a "java/lang/String" ∧ Fld Z h a "java/lang/String" "coder" "B" (.int 0) ∧ Fld Z h a "java/lang/String" "value" "[B" (.ref x) ∧ Arv Z h x kx .byte (Int32.ofNat k) ((cs.map StrChars.lo8).map Value.int) (.int 0)
set_option maxRecDepth 65536 in
set_option maxHeartbeats 40000000 in
theorem rmS1 (l : Launch) (Z : State) (a0 : Array Value) (hw : ∀ d ∈ tables_1, d.before a0 Z = true) (ws : List Jvm.Cond) (a : Addr) (b : Addr) (z : Int32) (tb : Addr) (kt : ClassId) (k : Nat) (cs : List Int32) (c : Nat) (h0 : Heap) (n0 : Nat) (Z0 : n0 ≤ h0.size) (hz : ¬ z = (0 : Int32)) (O : Old Z n0 h0) (SC : Sta Z Z.heap "java/lang/String" "COMPACT_STRINGS" "Z" (.int z)) (Eb : Exa Z h0 b "java/lang/StringBuilder") (Fv : Fld Z h0 b "java/lang/AbstractStringBuilder" "value" "[B" (.ref tb)) (Fc : Fld Z h0 b "java/lang/AbstractStringBuilder" "count" "I" (.int (Int32.ofNat k))) (Fk : Fld Z h0 b "java/lang/AbstractStringBuilder" "coder" "B" (.int (0 : Int32))) (At : Arv Z h0 tb kt .byte (Int32.ofNat c) ((cs.map StrChars.lo8).map Value.int) (.int 0)) (gb : n0 ≤ b) (gt : n0 ≤ tb) (nbt : b ≠ tb) (hk : cs.length = k) (Ea : Exa Z h0 a "java/lang/String") (V0 : Fld Z h0 a "java/lang/String" "value" "[B" .null) (C0 : Fld Z h0 a "java/lang/String" "coder" "B" (.int (0 : Int32))) (ga : n0 ≤ a) (nab : a ≠ b) (nat : a ≠ tb) (hkc : k < c) (hkm : k ≤ 8) (hc : c < 1000) :
    own_M l (⟨"java/lang/String", "<init>", "(Ljava/lang/StringBuilder;)V"⟩ : MethodName) jdk_42_method_53_code 2 none ws ({ frames := 4, cells := 1, slots := 8, locals := 65 } : Room) #[(.ref a), (.ref b)] Z h0 (QS1 Z a b z tb kt k cs c h0 n0) := by
  refine MetFree.of_bodySF (plainFor_of_name pn_2) hisR ?_
  intro p e s m args below meth cd s₁ Bd hml hP hK
  obtain ⟨rfl, hZ, hh⟩ := hP
  obtain ⟨X0, e0, H, hlk, hown, hret⟩ := own_start (R := ({ frames := 4, cells := 1, slots := 8, locals := 65 } : Room)) Bd hh rfl
  have hx := H.1; have hby := H.2; have N0 := Fr.nil n0
  show own_Fin p e below (own_Ans s (QS1 Z a b z tb kt k cs c h0 n0) ({ frames := 4, cells := 1, slots := 8, locals := 65 } : Room).cells ({ frames := 4, cells := 1, slots := 8, locals := 65 } : Room).slots) (s₁.setTop (entryFrame m #[(.ref a), (.ref b)] 2))
  refine own_cast (ef_rmS1 m a b) ?_
  show own_Fin p e below _ (s₁.setTop (mkF m 0 #[.val (.ref a), .val (.ref b)] []))
  refine o_aldN X0 H (od dB22 0 rfl) rfl rfl ?_
  refine o_aldN X0 H (od dB22 1 rfl) rfl rfl ?_
  refine o_nul X0 H (od dB22 2 rfl) ?_
  refine o_sc (b := a) (argsL := [(.ref b), .null]) (rest := []) X0 H hml hZ hown (ow hw 126 rfl) (ow hw 127 rfl) (ow hw 128 rfl) (backOf (W := 0) (rmS2 l Z a0 hw [] a b z tb kt k cs c h0 n0 (by exact Z0) hz O SC Eb Fv Fc Fk At gb gt nbt hk Ea V0 C0 ga nab nat hkc hkm hc) hZ (ow hw 128 rfl) (ow hw 6 rfl) (by decide) (by decide)) rfl (by decide) e0 pd_12 (od dB22 3 rfl) rfl rfl rfl rfl rfl (by decide) (by decide) fun _ T66 Lc66 X66 hQ66 => ?_
  obtain ⟨x66, kx66, rfl, N66q, K66, gx66, Eq66, Cq66, Vq66, Aq66⟩ := hQ66
  have N66 := Fr.app N0 N66q
  show own_Fin p e below _ (T66.setTop (mkF m 6 #[.val (.ref a), .val (.ref b)] []))
  exact own_retV X66 hx hlk hret (hb hby (od dB22 4 rfl)) (by show QS1 Z a b z tb kt k cs c h0 n0 _ T66.heap _; exact ⟨x66, kx66, rfl, N66, ((Keep.refl h0 [a]).trans K66 (allS (Or.inl (List.mem_of_getElem? (i := 0) rfl)) all0)), (Nat.le_trans (Keep.refl h0 [a]).1 gx66), Eq66, Cq66, Vq66, Aq66⟩) (by decide) (by decide)
theorem dB21 : oL jdk_67_method_42_code [(0, .new 18, 3), (3, .dup, 1), (4, .aload_n 0, 1), (5, .invokespecial 137, 3), (8, .areturn, 1)] := by unfold oL; decide +kernel
theorem pd_13 : parseMethodDescriptor "(Ljava/lang/StringBuilder;)V" = some ⟨[(.object "java/lang/StringBuilder")], none⟩ := by decide +kernel
theorem ef_rmTs (m : MethodId) (x0 : Addr) : entryFrame m #[(.ref x0)] 1 = mkF m 0 #[.val (.ref x0)] [] := by first | (simp [entryFrame, mkF, argsToLocals, Value.category]; done) | rfl
def QTs (Z : State) (b : Addr) (z : Int32) (tb : Addr) (kt : ClassId) (k : Nat) (cs : List Int32) (c : Nat) (h0 : Heap) (n0 : Nat) (v : Option Value) (h : Heap) (L : List Loc) : Prop := ∃ (y x : Addr) (kx : ClassId), v = some (.ref y) ∧ Fr n0 L ∧ Keep h0 h [] ∧ h0.size ≤ y ∧ h0.size ≤ x ∧ Exa Z h y "java/lang/String" ∧ Fld Z h y "java/lang/String" "coder" "B" (.int 0) ∧ Fld Z h y "java/lang/String" "value" "[B" (.ref x) ∧ Arv Z h x kx .byte (Int32.ofNat k) ((cs.map StrChars.lo8).map Value.int) (.int 0)
set_option maxRecDepth 65536 in
set_option maxHeartbeats 40000000 in
theorem rmTs (l : Launch) (Z : State) (a0 : Array Value) (hw : ∀ d ∈ tables_1, d.before a0 Z = true) (ws : List Jvm.Cond) (b : Addr) (z : Int32) (tb : Addr) (kt : ClassId) (k : Nat) (cs : List Int32) (c : Nat) (h0 : Heap) (n0 : Nat) (Z0 : n0 ≤ h0.size) (hz : ¬ z = (0 : Int32)) (O : Old Z n0 h0) (SC : Sta Z Z.heap "java/lang/String" "COMPACT_STRINGS" "Z" (.int z)) (Eb : Exa Z h0 b "java/lang/StringBuilder") (Fv : Fld Z h0 b "java/lang/AbstractStringBuilder" "value" "[B" (.ref tb)) (Fc : Fld Z h0 b "java/lang/AbstractStringBuilder" "count" "I" (.int (Int32.ofNat k))) (Fk : Fld Z h0 b "java/lang/AbstractStringBuilder" "coder" "B" (.int (0 : Int32))) (At : Arv Z h0 tb kt .byte (Int32.ofNat c) ((cs.map StrChars.lo8).map Value.int) (.int 0)) (gb : n0 ≤ b) (gt : n0 ≤ tb) (nbt : b ≠ tb) (hk : cs.length = k) (hkc : k < c) (hkm : k ≤ 8) (hc : c < 1000) :
    own_M l (⟨"java/lang/StringBuilder", "toString", "()Ljava/lang/String;"⟩ : MethodName) jdk_67_method_42_code 1 (some (.object "java/lang/String")) ws ({ frames := 5, cells := 2, slots := 12, locals := 79 } : Room) #[(.ref b)] Z h0 (QTs Z b z tb kt k cs c h0 n0) := by
  refine MetFree.of_bodySF (plainFor_of_name pn_1) hisR ?_
  intro p e s m args below meth cd s₁ Bd hml hP hK
  obtain ⟨rfl, hZ, hh⟩ := hP
  obtain ⟨X0, e0, H, hlk, hown, hret⟩ := own_start (R := ({ frames := 5, cells := 2, slots := 12, locals := 79 } : Room)) Bd hh rfl
  have hx := H.1; have hby := H.2; have N0 := Fr.nil n0
  show own_Fin p e below (own_Ans s (QTs Z b z tb kt k cs c h0 n0) ({ frames := 5, cells := 2, slots := 12, locals := 79 } : Room).cells ({ frames := 5, cells := 2, slots := 12, locals := 79 } : Room).slots) (s₁.setTop (entryFrame m #[(.ref b)] 1))
  refine own_cast (ef_rmTs m b) ?_
  show own_Fin p e below _ (s₁.setTop (mkF m 0 #[.val (.ref b)] []))
  obtain ⟨T67, h67, X67, e67, E67, A67, D67, -, st67⟩ := newO X0 hx hZ hown (ow hw 122 rfl) (ow hw 5 rfl) (ow hw 6 rfl) e0 (g := (mkF m 0 #[.val (.ref b)] [])) rfl (hb hby (od dB21 0 rfl)) (by decide) (by decide)
  obtain ⟨b67, g67⟩ : ∃ z, z = h0.size := ⟨_, rfl⟩
  rw [← g67] at A67 D67 st67
  have ne67_b : b ≠ b67 := own_ne_of (Z := Z) Eb.lt g67
  have ne67_tb : tb ≠ b67 := own_ne_of (Z := Z) At.lt g67
  have gn67 : n0 ≤ b67 := Nat.le_trans Z0 (Nat.le_of_eq g67.symm)
  have gk67 : h0.size ≤ b67 := Nat.le_trans (Keep.refl h0 []).1 (Nat.le_of_eq g67.symm)
  have F67_value : Fld Z h67 b67 "java/lang/String" "value" "[B" .null := D67 (Or.inr (ow hw 20 rfl)) (ty := (.array .byte)) (by decide)
  have F67_coder : Fld Z h67 b67 "java/lang/String" "coder" "B" (.int (0 : Int32)) := D67 (Or.inr (ow hw 21 rfl)) (ty := .byte) (by decide)
  refine own_on st67 ?_
  show own_Fin p e below _ (T67.setTop (mkF m 3 #[.val (.ref b)] [(.ref b67)]))
  refine o_dup X67 H (od dB21 1 rfl) rfl ?_
  refine o_aldN X67 H (od dB21 2 rfl) rfl rfl ?_
  refine o_sc (b := b67) (argsL := [(.ref b)]) (rest := [(.ref b67)]) X67 H hml hZ hown (ow hw 123 rfl) (ow hw 124 rfl) (ow hw 125 rfl) (backOf (W := 1) (rmS1 l Z a0 hw [] b67 b z tb kt k cs c h67 n0 (by exact (Nat.le_trans Z0 E67.1)) hz (O.ext E67) SC (Eb.ext E67) (Fv.ext E67) (Fc.ext E67) (Fk.ext E67) (At.ext E67) gb gt nbt hk A67 F67_value F67_coder gn67 (Ne.symm ne67_b) (Ne.symm ne67_tb) hkc hkm hc) hZ (ow hw 125 rfl) (ow hw 6 rfl) (by decide) (by decide)) rfl (by decide) e67 pd_13 (od dB21 3 rfl) rfl rfl rfl rfl rfl (by decide) (by decide) fun _ T68 Lc68 X68 hQ68 => ?_
  obtain ⟨x68, kx68, rfl, N68q, K68, gx68, Eq68, Cq68, Vq68, Aq68⟩ := hQ68
  have N68 := Fr.app N0 N68q
  show own_Fin p e below _ (T68.setTop (mkF m 8 #[.val (.ref b)] [(.ref b67)]))
  exact own_ret (t := (.object "java/lang/String")) X68 hx hlk hret rfl (Or.inr (Or.inr (Or.inr (Or.inr ⟨rfl, rfl, rfl⟩)))) (hb hby (od dB21 4 rfl)) (by show QTs Z b z tb kt k cs c h0 n0 _ T68.heap _; exact ⟨b67, x68, kx68, rfl, N68, (((Keep.refl h0 []).ext E67).trans K68 (allS (Or.inr gk67) all0)), gk67, (Nat.le_trans ((Keep.refl h0 []).ext E67).1 gx68), Eq68, Cq68, Vq68, Aq68⟩) (by decide) (by decide)
theorem pn_4 : plainName "jdk/internal/util/ArraysSupport" = true := by first | (simp [plainName, overriddenIn]; done) | decide +kernel
theorem dB34 : oL jdk_48_method_14_code [(0, .iconst 0, 1), (1, .istore 5, 2), (3, .iload 4, 2), (5, .bipush 7, 2), (7, .if_icmp .le 63, 3), (10, .aload_n 0, 1), (11, .iload_n 1, 1), (12, .baload, 1), (13, .aload_n 2, 1), (14, .iload_n 3, 1), (15, .baload, 1), (16, .if_icmp .eq 5, 3), (19, .iconst 0, 1), (20, .ireturn, 1), (21, .getstatic 126, 3), (24, .iload_n 1, 1), (25, .iadd, 1), (26, .istore 6, 2), (28, .getstatic 126, 3), (31, .iload_n 3, 1), (32, .iadd, 1), (33, .istore 7, 2), (35, .aload_n 0, 1), (36, .iload 6, 2), (38, .i2l, 1), (39, .aload_n 2, 1), (40, .iload 7, 2), (42, .i2l, 1), (43, .iload 4, 2), (45, .getstatic 129, 3), (48, .invokestatic 122, 3), (51, .istore 5, 2), (53, .iload 5, 2), (55, .ifCond .lt 6, 3), (58, .iload 5, 2), (60, .ireturn, 1), (61, .iload 4, 2), (63, .iload 5, 2), (65, .iconst (-1), 1), (66, .ixor, 1), (67, .isub, 1), (68, .istore 5, 2), (70, .iload 5, 2), (72, .iload 4, 2), (74, .if_icmp .ge 27, 3), (77, .aload_n 0, 1), (78, .iload_n 1, 1), (79, .iload 5, 2), (81, .iadd, 1), (82, .baload, 1), (83, .aload_n 2, 1), (84, .iload_n 3, 1), (85, .iload 5, 2), (87, .iadd, 1), (88, .baload, 1), (89, .if_icmp .eq 6, 3), (92, .iload 5, 2), (94, .ireturn, 1), (95, .iinc 5 1, 3), (98, .goto (-28), 3), (101, .iconst (-1), 1), (102, .ireturn, 1)] := by unfold oL; decide +kernel
theorem ef_rm34 (m : MethodId) (x0 : Addr) (x1 : Int32) (x2 : Addr) (x3 : Int32) (x4 : Int32) : entryFrame m #[(.ref x0), (.int x1), (.ref x2), (.int x3), (.int x4)] 8 = mkF m 0 #[.val (.ref x0), .val (.int x1), .val (.ref x2), .val (.int x3), .val (.int x4), .unset, .unset, .unset] [] := by first | (simp [entryFrame, mkF, argsToLocals, Value.category]; done) | rfl
def Q34 (Z : State) (tx : Addr) (ty : Addr) (kx : ClassId) (ka : List Int32) (a : Nat) (ky : ClassId) (sb : List Int32) (n : Nat) (h0 : Heap) (n0 : Nat) (v : Option Value) (h : Heap) (L : List Loc) : Prop := ∃ r : Int32, v = some (.int r) ∧ Fr n0 L ∧ h = h0 ∧ (r < 0 ↔ ∀ j, j < n → StrChars.lo8 (ka.getD j 0) = StrChars.lo8 (sb.getD j 0))
set_option maxRecDepth 65536 in
set_option maxHeartbeats 40000000 in
theorem rm34 (l : Launch) (Z : State) (a0 : Array Value) (hw : ∀ d ∈ tables_1, d.before a0 Z = true) (ws : List Jvm.Cond) (tx : Addr) (ty : Addr) (kx : ClassId) (ka : List Int32) (a : Nat) (ky : ClassId) (sb : List Int32) (n : Nat) (h0 : Heap) (n0 : Nat) (Z0 : n0 ≤ h0.size) (Kx : Arv Z h0 tx kx .byte (Int32.ofNat a) ((ka.map StrChars.lo8).map Value.int) (.int 0)) (la : ka.length = a) (Ky : Arv Z h0 ty ky .byte (Int32.ofNat n) ((sb.map StrChars.lo8).map Value.int) (.int 0)) (lb : sb.length = n) (hna : n ≤ a) (h7 : n ≤ 7) (ha : a < 1000) :
    own_M l (⟨"jdk/internal/util/ArraysSupport", "mismatch", "([BI[BII)I"⟩ : MethodName) jdk_48_method_14_code 8 (some .int) ws ({ frames := 0, cells := 0, slots := 0, locals := 0 } : Room) #[(.ref tx), (.int (0 : Int32)), (.ref ty), (.int (0 : Int32)), (.int (Int32.ofNat n))] Z h0 (Q34 Z tx ty kx ka a ky sb n h0 n0) := by
  refine MetFree.of_bodySF (plainFor_of_name pn_4) hisR ?_
  intro p e s m args below meth cd s₁ Bd hml hP hK
  obtain ⟨rfl, hZ, hh⟩ := hP
  obtain ⟨X0, e0, H, hlk, hown, hret⟩ := own_start (R := ({ frames := 0, cells := 0, slots := 0, locals := 0 } : Room)) Bd hh rfl
  have hx := H.1; have hby := H.2; have N0 := Fr.nil n0
  show own_Fin p e below (own_Ans s (Q34 Z tx ty kx ka a ky sb n h0 n0) ({ frames := 0, cells := 0, slots := 0, locals := 0 } : Room).cells ({ frames := 0, cells := 0, slots := 0, locals := 0 } : Room).slots) (s₁.setTop (entryFrame m #[(.ref tx), (.int (0 : Int32)), (.ref ty), (.int (0 : Int32)), (.int (Int32.ofNat n))] 8))
  refine own_cast (ef_rm34 m tx (0 : Int32) ty (0 : Int32) (Int32.ofNat n)) ?_
  show own_Fin p e below _ (s₁.setTop (mkF m 0 #[.val (.ref tx), .val (.int (0 : Int32)), .val (.ref ty), .val (.int (0 : Int32)), .val (.int (Int32.ofNat n)), .unset, .unset, .unset] []))
  refine o_ic X0 H (od dB34 0 rfl) (v := 0) rfl ?_
  refine o_ist X0 H (od dB34 1 rfl) (L' := #[.val (.ref tx), .val (.int (0 : Int32)), .val (.ref ty), .val (.int (0 : Int32)), .val (.int (Int32.ofNat n)), .val (.int (0 : Int32)), .unset, .unset]) rfl ?_
  refine o_ild X0 H (od dB34 2 rfl) rfl ?_
  refine o_bi X0 H (od dB34 3 rfl) (v := 7) rfl ?_
  refine o_icY X0 H (od dB34 4 rfl) (flt (own_onlt (a := 7) h7 (by decide))).2.2.2 (pc' := 70) (by decide) (by decide) ?_
  have PL : ∀ (r j : Nat) (hrj : r + j = n) (hE : ∀ q, q < j → StrChars.lo8 (ka.getD q 0) = StrChars.lo8 (sb.getD q 0)), ∀ (Tq : State) (Hq : Heap) (Loq : List Loc) (Xq : Stand p l e ({ frames := 0, cells := 0, slots := 0, locals := 0 } : Room) s m #[(.ref tx), (.int (0 : Int32)), (.ref ty), (.int (0 : Int32)), (.int (Int32.ofNat n))] below meth cd Tq Loq 0 0) (eq : Tq.heap = Hq) (hH : Hq = h0) (Nq : Fr n0 Loq) (gq_0 : n0 ≤ Hq.size) (gq_1 : Arv Z Hq tx kx .byte (Int32.ofNat a) ((ka.map StrChars.lo8).map Value.int) (.int 0)) (gq_2 : Arv Z Hq ty ky .byte (Int32.ofNat n) ((sb.map StrChars.lo8).map Value.int) (.int 0)), own_Fin p e below (own_Ans s (Q34 Z tx ty kx ka a ky sb n h0 n0) ({ frames := 0, cells := 0, slots := 0, locals := 0 } : Room).cells ({ frames := 0, cells := 0, slots := 0, locals := 0 } : Room).slots) (Tq.setTop (mkF m 70 #[.val (.ref tx), .val (.int (0 : Int32)), .val (.ref ty), .val (.int (0 : Int32)), .val (.int (Int32.ofNat n)), .val (.int (Int32.ofNat j)), .unset, .unset] [])) := by
    intro r
    induction r with
    | zero =>
      intro j hrj hE Tq Hq Loq Xq eq hH Nq gq_0 gq_1 gq_2
      show own_Fin p e below _ (Tq.setTop (mkF m 70 #[.val (.ref tx), .val (.int (0 : Int32)), .val (.ref ty), .val (.int (0 : Int32)), .val (.int (Int32.ofNat n)), .val (.int (Int32.ofNat j)), .unset, .unset] []))
      refine o_ild Xq H (od dB34 42 rfl) rfl ?_
      refine o_ild Xq H (od dB34 43 rfl) rfl ?_
      refine o_icY Xq H (od dB34 44 rfl) (flt (own_onlt (by omega) (by omega))).2.1 (pc' := 101) (by decide) (by decide) ?_
      refine o_ic Xq H (od dB34 60 rfl) (v := -1) rfl ?_
      exact own_ret (t := .int) Xq hx hlk hret rfl (Or.inl ⟨rfl, (by simp), _, rfl⟩) (hb hby (od dB34 61 rfl)) (⟨_, rfl, Nq, (eq.trans hH), ⟨fun _ j' hj => hE j' (by omega), fun _ => by decide⟩⟩) (by decide) (by decide)
    | succ r ih =>
      intro j hrj hE Tq Hq Loq Xq eq hH Nq gq_0 gq_1 gq_2
      show own_Fin p e below _ (Tq.setTop (mkF m 70 #[.val (.ref tx), .val (.int (0 : Int32)), .val (.ref ty), .val (.int (0 : Int32)), .val (.int (Int32.ofNat n)), .val (.int (Int32.ofNat j)), .unset, .unset] []))
      refine o_ild Xq H (od dB34 42 rfl) rfl ?_
      refine o_ild Xq H (od dB34 43 rfl) rfl ?_
      refine o_icN Xq H (od dB34 44 rfl) (tlt (own_olt (by omega) (by omega))).2.1 ?_
      refine o_aldN Xq H (od dB34 45 rfl) rfl rfl ?_
      refine o_ildN Xq H (od dB34 46 rfl) rfl ?_
      refine o_ild Xq H (od dB34 47 rfl) rfl ?_
      refine o_iadd Xq H (od dB34 48 rfl) ?_
      rw [Int32.zero_add]
      show own_Fin p e below _ (Tq.setTop (mkF m 82 #[.val (.ref tx), .val (.int (0 : Int32)), .val (.ref ty), .val (.int (0 : Int32)), .val (.int (Int32.ofNat n)), .val (.int (Int32.ofNat j)), .unset, .unset] [(.int (Int32.ofNat j)), (.ref tx)]))
      have cp69 := gq_1
      obtain ⟨cl69, Ar69, q69, S69, G69, H69, F69⟩ := cp69
      have hin69 : ¬ ((Int32.ofNat j) < 0 ∨ cl69.slots.size ≤ ((Int32.ofNat j)).toNatClampNeg) := inb_of S69 ⟨own_nneg (by omega), own_olt (by omega) (by omega)⟩
      have hat69 : cl69.slots[((Int32.ofNat j)).toNatClampNeg]? = some (.int (StrChars.lo8 (ka.getD j 0))) := H69.at hin69 (by rw [own_clampN (by omega)]; exact own_vd (by omega))
      refine own_on (fun tq => Xq.baloadBytes hx (j := (Int32.ofNat j)) (v := (.int (StrChars.lo8 (ka.getD j 0)))) (by rw [eq]; exact Ar69.1) (State.isArrayOf_alike hZ.alike Ar69.2.1) Ar69.2.2 hin69 hat69 (g := (mkF m 82 #[.val (.ref tx), .val (.int (0 : Int32)), .val (.ref ty), .val (.int (0 : Int32)), .val (.int (Int32.ofNat n)), .val (.int (Int32.ofNat j)), .unset, .unset] [(.int (Int32.ofNat j)), (.ref tx)])) rfl rfl (hb hby (od dB34 49 rfl)) tq) ?_
      show own_Fin p e below _ (Tq.setTop (mkF m 83 #[.val (.ref tx), .val (.int (0 : Int32)), .val (.ref ty), .val (.int (0 : Int32)), .val (.int (Int32.ofNat n)), .val (.int (Int32.ofNat j)), .unset, .unset] [(.int (StrChars.lo8 (ka.getD j 0)))]))
      refine o_aldN Xq H (od dB34 50 rfl) rfl rfl ?_
      refine o_ildN Xq H (od dB34 51 rfl) rfl ?_
      refine o_ild Xq H (od dB34 52 rfl) rfl ?_
      refine o_iadd Xq H (od dB34 53 rfl) ?_
      rw [Int32.zero_add]
      show own_Fin p e below _ (Tq.setTop (mkF m 88 #[.val (.ref tx), .val (.int (0 : Int32)), .val (.ref ty), .val (.int (0 : Int32)), .val (.int (Int32.ofNat n)), .val (.int (Int32.ofNat j)), .unset, .unset] [(.int (Int32.ofNat j)), (.ref ty), (.int (StrChars.lo8 (ka.getD j 0)))]))
      have cp70 := gq_2
      obtain ⟨cl70, Ar70, q70, S70, G70, H70, F70⟩ := cp70
      have hin70 : ¬ ((Int32.ofNat j) < 0 ∨ cl70.slots.size ≤ ((Int32.ofNat j)).toNatClampNeg) := inb_of S70 ⟨own_nneg (by omega), own_olt (by omega) (by omega)⟩
      have hat70 : cl70.slots[((Int32.ofNat j)).toNatClampNeg]? = some (.int (StrChars.lo8 (sb.getD j 0))) := H70.at hin70 (by rw [own_clampN (by omega)]; exact own_vd (by omega))
      refine own_on (fun tq => Xq.baloadBytes hx (j := (Int32.ofNat j)) (v := (.int (StrChars.lo8 (sb.getD j 0)))) (by rw [eq]; exact Ar70.1) (State.isArrayOf_alike hZ.alike Ar70.2.1) Ar70.2.2 hin70 hat70 (g := (mkF m 88 #[.val (.ref tx), .val (.int (0 : Int32)), .val (.ref ty), .val (.int (0 : Int32)), .val (.int (Int32.ofNat n)), .val (.int (Int32.ofNat j)), .unset, .unset] [(.int (Int32.ofNat j)), (.ref ty), (.int (StrChars.lo8 (ka.getD j 0)))])) rfl rfl (hb hby (od dB34 54 rfl)) tq) ?_
      show own_Fin p e below _ (Tq.setTop (mkF m 89 #[.val (.ref tx), .val (.int (0 : Int32)), .val (.ref ty), .val (.int (0 : Int32)), .val (.int (Int32.ofNat n)), .val (.int (Int32.ofNat j)), .unset, .unset] [(.int (StrChars.lo8 (sb.getD j 0))), (.int (StrChars.lo8 (ka.getD j 0)))]))
      by_cases hc71 : (StrChars.lo8 (ka.getD j 0)) = (StrChars.lo8 (sb.getD j 0))
      · refine o_icY Xq H (od dB34 55 rfl) (teq hc71).1 (pc' := 95) (by decide) (by decide) ?_
        refine own_on (fun tq => XS.iinc Xq.here hx rfl (hb hby (od dB34 58 rfl)) rfl (l' := #[.val (.ref tx), .val (.int (0 : Int32)), .val (.ref ty), .val (.int (0 : Int32)), .val (.int (Int32.ofNat n)), .val (.int ((Int32.ofNat j) + (1 : Int32))), .unset, .unset]) rfl) ?_
        show own_Fin p e below _ (Tq.setTop (mkF m 98 #[.val (.ref tx), .val (.int (0 : Int32)), .val (.ref ty), .val (.int (0 : Int32)), .val (.int (Int32.ofNat n)), .val (.int ((Int32.ofNat j) + (1 : Int32))), .unset, .unset] []))
        refine o_go Xq H (od dB34 59 rfl) (pc' := 70) (by decide) (by decide) ?_
        rw [show Int32.ofNat j + (1 : Int32) = Int32.ofNat (j + 1) from own_add _ 1]
        exact ih (j + 1) (by omega) (fun q hq => (Nat.lt_succ_iff_lt_or_eq.mp hq).elim (hE q) (fun e => by rw [e]; exact hc71)) Tq _ _ Xq eq hH Nq gq_0 gq_1 gq_2
      · refine o_icN Xq H (od dB34 55 rfl) (feq hc71).1 ?_
        refine o_ild Xq H (od dB34 56 rfl) rfl ?_
        exact own_ret (t := .int) Xq hx hlk hret rfl (Or.inl ⟨rfl, (by simp), _, rfl⟩) (hb hby (od dB34 57 rfl)) (⟨_, rfl, Nq, (eq.trans hH), ⟨fun q => absurd q (own_nneg (by omega)), fun q => absurd (q j (by omega)) hc71⟩⟩) (by decide) (by decide)
  exact PL n 0 (Nat.add_zero n) (fun q hq => absurd hq (Nat.not_lt_zero q)) s₁ _ _ X0 e0 rfl N0 Z0 Kx Ky
theorem dB33 : oL jdk_42_method_75_code [(0, .iload_n 2, 1), (1, .ifCond .lt 16, 3), (4, .iload_n 2, 1), (5, .aload_n 0, 1), (6, .invokevirtual 505, 3), (9, .aload_n 1, 1), (10, .invokevirtual 505, 3), (13, .isub, 1), (14, .if_icmp .le 5, 3), (17, .iconst 0, 1), (18, .ireturn, 1), (19, .aload_n 0, 1), (20, .getfield 9, 3), (23, .astore_n 3, 1), (24, .aload_n 1, 1), (25, .getfield 9, 3), (28, .astore 4, 2), (30, .iconst 0, 1), (31, .istore 5, 2), (33, .aload 4, 2), (35, .arraylength, 1), (36, .istore 6, 2), (38, .aload_n 0, 1), (39, .invokevirtual 335, 3), (42, .istore 7, 2), (44, .iload 7, 2), (46, .aload_n 1, 1), (47, .invokevirtual 335, 3), (50, .if_icmp .ne 32, 3), (53, .iload 7, 2), (55, .iconst 1, 1), (56, .if_icmp .ne 7, 3), (59, .iload_n 2, 1), (60, .iconst 1, 1), (61, .ishl, 1), (62, .istore_n 2, 1), (63, .aload_n 3, 1), (64, .iload_n 2, 1), (65, .aload 4, 2), (67, .iconst 0, 1), (68, .iload 6, 2), (70, .invokestatic 607, 3), (73, .ifCond .ge 7, 3), (76, .iconst 1, 1), (77, .goto 4, 3), (80, .iconst 0, 1), (81, .ireturn, 1), (82, .iload 7, 2), (84, .ifCond .ne 5, 3), (87, .iconst 0, 1), (88, .ireturn, 1), (89, .iload 5, 2), (91, .iload 6, 2), (93, .if_icmp .ge 28, 3), (96, .aload_n 3, 1), (97, .iload_n 2, 1), (98, .iinc 2 1, 3), (101, .invokestatic 360, 3), (104, .aload 4, 2), (106, .iload 5, 2), (108, .iinc 5 1, 3), (111, .baload, 1), (112, .sipush 255, 3), (115, .iand, 1), (116, .if_icmp .eq (-27), 3), (119, .iconst 0, 1), (120, .ireturn, 1), (121, .iconst 1, 1), (122, .ireturn, 1)] := by unfold oL; decide +kernel
theorem pd_14 : parseMethodDescriptor "([BI[BII)I" = some ⟨[(.array .byte), .int, (.array .byte), .int, .int], some .int⟩ := by decide +kernel
theorem ef_rmSi (m : MethodId) (x0 : Addr) (x1 : Addr) (x2 : Int32) : entryFrame m #[(.ref x0), (.ref x1), (.int x2)] 8 = mkF m 0 #[.val (.ref x0), .val (.ref x1), .val (.int x2), .unset, .unset, .unset, .unset, .unset] [] := by first | (simp [entryFrame, mkF, argsToLocals, Value.category]; done) | rfl
def QSi (Z : State) (x : Addr) (y : Addr) (z : Int32) (tx : Addr) (kx : ClassId) (a : Nat) (ka : List Int32) (ty : Addr) (ky : ClassId) (n : Nat) (sb : List Int32) (h0 : Heap) (n0 : Nat) (v : Option Value) (h : Heap) (L : List Loc) : Prop := ∃ r : Int32, v = some (.int r) ∧ Fr n0 L ∧ h = h0 ∧ ((r = 1 ∧ (n ≤ a ∧ ∀ j, j < n → StrChars.lo8 (ka.getD j 0) = StrChars.lo8 (sb.getD j 0))) ∨ (r = 0 ∧ ¬ (n ≤ a ∧ ∀ j, j < n → StrChars.lo8 (ka.getD j 0) = StrChars.lo8 (sb.getD j 0))))
set_option maxRecDepth 65536 in
set_option maxHeartbeats 40000000 in
theorem rmSi (l : Launch) (Z : State) (a0 : Array Value) (hw : ∀ d ∈ tables_1, d.before a0 Z = true) (ws : List Jvm.Cond) (x : Addr) (y : Addr) (z : Int32) (tx : Addr) (kx : ClassId) (a : Nat) (ka : List Int32) (ty : Addr) (ky : ClassId) (n : Nat) (sb : List Int32) (h0 : Heap) (n0 : Nat) (Z0 : n0 ≤ h0.size) (hz : ¬ z = (0 : Int32)) (O : Old Z n0 h0) (SC : Sta Z Z.heap "java/lang/String" "COMPACT_STRINGS" "Z" (.int z)) (Ex : Exa Z h0 x "java/lang/String") (Cx : Fld Z h0 x "java/lang/String" "coder" "B" (.int (0 : Int32))) (Vx : Fld Z h0 x "java/lang/String" "value" "[B" (.ref tx)) (Kx : Arv Z h0 tx kx .byte (Int32.ofNat a) ((ka.map StrChars.lo8).map Value.int) (.int 0)) (hnx : ka.length = a) (Ey : Exa Z h0 y "java/lang/String") (Cy : Fld Z h0 y "java/lang/String" "coder" "B" (.int (0 : Int32))) (Vy : Fld Z h0 y "java/lang/String" "value" "[B" (.ref ty)) (Ky : Arv Z h0 ty ky .byte (Int32.ofNat n) ((sb.map StrChars.lo8).map Value.int) (.int 0)) (hny : sb.length = n) (h7 : n ≤ 7) (ha : a < 1000) :
    own_M l (⟨"java/lang/String", "startsWith", "(Ljava/lang/String;I)Z"⟩ : MethodName) jdk_42_method_75_code 8 (some .boolean) ws ({ frames := 2, cells := 0, slots := 0, locals := 27 } : Room) #[(.ref x), (.ref y), (.int (0 : Int32))] Z h0 (QSi Z x y z tx kx a ka ty ky n sb h0 n0) := by
  refine MetFree.of_bodySF (plainFor_of_name pn_2) hisR ?_
  intro p e s m args below meth cd s₁ Bd hml hP hK
  obtain ⟨rfl, hZ, hh⟩ := hP
  obtain ⟨X0, e0, H, hlk, hown, hret⟩ := own_start (R := ({ frames := 2, cells := 0, slots := 0, locals := 27 } : Room)) Bd hh rfl
  have hx := H.1; have hby := H.2; have N0 := Fr.nil n0
  show own_Fin p e below (own_Ans s (QSi Z x y z tx kx a ka ty ky n sb h0 n0) ({ frames := 2, cells := 0, slots := 0, locals := 27 } : Room).cells ({ frames := 2, cells := 0, slots := 0, locals := 27 } : Room).slots) (s₁.setTop (entryFrame m #[(.ref x), (.ref y), (.int (0 : Int32))] 8))
  refine own_cast (ef_rmSi m x y (0 : Int32)) ?_
  show own_Fin p e below _ (s₁.setTop (mkF m 0 #[.val (.ref x), .val (.ref y), .val (.int (0 : Int32)), .unset, .unset, .unset, .unset, .unset] []))
  refine o_ildN X0 H (od dB33 0 rfl) rfl ?_
  refine o_ifN X0 H (od dB33 1 rfl) ((if0 _ _).trans (flt (by decide : ¬ ((0 : Int32) < (0 : Int32)))).1) ?_
  refine o_ildN X0 H (od dB33 2 rfl) rfl ?_
  refine o_aldN X0 H (od dB33 3 rfl) rfl rfl ?_
  refine o_vs (argsL := []) (rest := [(.int (0 : Int32))]) X0 H hml hZ hown (ow hw 172 rfl) (ow hw 80 rfl) (ow hw 82 rfl) (ow hw 81 rfl) (backOf (W := 1) (rm15 l Z a0 hw [] x z tx kx a ka h0 n0 (by exact Z0) hz O SC Ex Cx Vx Kx hnx) hZ (ow hw 83 rfl) (ow hw 6 rfl) (by decide) (by decide)) (by decide) Ex e0 pd_1 (od dB33 4 rfl) rfl rfl rfl rfl rfl (by decide) (by decide) (o_pk (fun _ _ _ q => q) N0 fun T72 Lc72 X72 N72 e72 => ?_)
  refine o_aldN X72 H (od dB33 5 rfl) rfl rfl ?_
  refine o_vs (argsL := []) (rest := [(.int (Int32.ofNat a)), (.int (0 : Int32))]) X72 H hml hZ hown (ow hw 172 rfl) (ow hw 80 rfl) (ow hw 82 rfl) (ow hw 81 rfl) (backOf (W := 2) (rm15 l Z a0 hw [] y z ty ky n sb h0 n0 (by exact Z0) hz O SC Ey Cy Vy Ky hny) hZ (ow hw 83 rfl) (ow hw 6 rfl) (by decide) (by decide)) (by decide) Ey e72 pd_1 (od dB33 6 rfl) rfl rfl rfl rfl rfl (by decide) (by decide) (o_pk (fun _ _ _ q => q) N72 fun T73 Lc73 X73 N73 e73 => ?_)
  refine o_isub X73 H (od dB33 7 rfl) ?_
  by_cases hc74 : ((Int32.ofNat a) - (Int32.ofNat n)) < (0 : Int32)
  · refine o_icN X73 H (od dB33 8 rfl) (tlt hc74).2.2.2 ?_
    refine o_ic X73 H (od dB33 9 rfl) (v := 0) rfl ?_
    exact own_ret (t := .boolean) X73 hx hlk hret rfl (Or.inl ⟨rfl, (by simp), _, rfl⟩) (hb hby (od dB33 10 rfl)) (⟨_, rfl, N73, e73, Or.inr ⟨rfl, fun q => absurd ((own_slt (by omega) (by omega)).mp hc74) (Nat.not_lt.mpr q.1)⟩⟩) (by decide) (by decide)
  · refine o_icY X73 H (od dB33 8 rfl) (flt hc74).2.2.2 (pc' := 19) (by decide) (by decide) ?_
    have hna : n ≤ a := Nat.not_lt.mp (fun q => hc74 ((own_slt (by omega) (by omega)).mpr q))
    have la := hnx; have lb := hny
    refine o_aldN X73 H (od dB33 11 rfl) rfl rfl ?_
    refine o_gf X73 H hZ hown (ow hw 24 rfl) Via.refl e73 Vx (od dB33 12 rfl) fun T75 X75 e75 => ?_
    refine o_astN X75 H (od dB33 13 rfl) (L' := #[.val (.ref x), .val (.ref y), .val (.int (0 : Int32)), .val (.ref tx), .unset, .unset, .unset, .unset]) rfl rfl ?_
    refine o_aldN X75 H (od dB33 14 rfl) rfl rfl ?_
    refine o_gf X75 H hZ hown (ow hw 24 rfl) Via.refl e75 Vy (od dB33 15 rfl) fun T76 X76 e76 => ?_
    refine o_ast X76 H (od dB33 16 rfl) (L' := #[.val (.ref x), .val (.ref y), .val (.int (0 : Int32)), .val (.ref tx), .val (.ref ty), .unset, .unset, .unset]) rfl rfl ?_
    refine o_ic X76 H (od dB33 17 rfl) (v := 0) rfl ?_
    refine o_ist X76 H (od dB33 18 rfl) (L' := #[.val (.ref x), .val (.ref y), .val (.int (0 : Int32)), .val (.ref tx), .val (.ref ty), .val (.int (0 : Int32)), .unset, .unset]) rfl ?_
    refine o_ald X76 H (od dB33 19 rfl) rfl rfl ?_
    have cp77 := Ky
    obtain ⟨cl77, Ar77, q77, S77, G77, H77, F77⟩ := cp77
    refine own_on (fun tq => X76.arraylength hx (by rw [e76]; exact Ar77.1) (State.isArrayOf_alike hZ.alike Ar77.2.1) (g := (mkF m 35 #[.val (.ref x), .val (.ref y), .val (.int (0 : Int32)), .val (.ref tx), .val (.ref ty), .val (.int (0 : Int32)), .unset, .unset] [(.ref ty)])) rfl rfl (hb hby (od dB33 20 rfl)) tq) ?_
    rw [len_of S77 G77]
    show own_Fin p e below _ (T76.setTop (mkF m 36 #[.val (.ref x), .val (.ref y), .val (.int (0 : Int32)), .val (.ref tx), .val (.ref ty), .val (.int (0 : Int32)), .unset, .unset] [(.int (Int32.ofNat n))]))
    refine o_ist X76 H (od dB33 21 rfl) (L' := #[.val (.ref x), .val (.ref y), .val (.int (0 : Int32)), .val (.ref tx), .val (.ref ty), .val (.int (0 : Int32)), .val (.int (Int32.ofNat n)), .unset]) rfl ?_
    refine o_aldN X76 H (od dB33 22 rfl) rfl rfl ?_
    refine o_vs (argsL := []) (rest := []) X76 H hml hZ hown (ow hw 84 rfl) (ow hw 85 rfl) (ow hw 87 rfl) (ow hw 86 rfl) (backOf (W := 0) (rm16 l Z a0 hw [] x z h0 n0 (by exact Z0) hz O SC Cx) hZ (ow hw 88 rfl) (ow hw 6 rfl) (by decide) (by decide)) (by decide) Ex e76 pd_2 (od dB33 23 rfl) rfl rfl rfl rfl rfl (by decide) (by decide) (o_pk (fun _ _ _ q => q) N73 fun T78 Lc78 X78 N78 e78 => ?_)
    refine o_ist X78 H (od dB33 24 rfl) (L' := #[.val (.ref x), .val (.ref y), .val (.int (0 : Int32)), .val (.ref tx), .val (.ref ty), .val (.int (0 : Int32)), .val (.int (Int32.ofNat n)), .val (.int (0 : Int32))]) rfl ?_
    refine o_ild X78 H (od dB33 25 rfl) rfl ?_
    refine o_aldN X78 H (od dB33 26 rfl) rfl rfl ?_
    refine o_vs (argsL := []) (rest := [(.int (0 : Int32))]) X78 H hml hZ hown (ow hw 84 rfl) (ow hw 85 rfl) (ow hw 87 rfl) (ow hw 86 rfl) (backOf (W := 1) (rm16 l Z a0 hw [] y z h0 n0 (by exact Z0) hz O SC Cy) hZ (ow hw 88 rfl) (ow hw 6 rfl) (by decide) (by decide)) (by decide) Ey e78 pd_2 (od dB33 27 rfl) rfl rfl rfl rfl rfl (by decide) (by decide) (o_pk (fun _ _ _ q => q) N78 fun T79 Lc79 X79 N79 e79 => ?_)
    refine o_icN X79 H (od dB33 28 rfl) (teq (by decide : (0 : Int32) = (0 : Int32))).2 ?_
    refine o_ild X79 H (od dB33 29 rfl) rfl ?_
    refine o_ic X79 H (od dB33 30 rfl) (v := 1) rfl ?_
    refine o_icY X79 H (od dB33 31 rfl) (feq (by decide : ¬ ((0 : Int32) = (1 : Int32)))).2 (pc' := 63) (by decide) (by decide) ?_
    refine o_aldN X79 H (od dB33 36 rfl) rfl rfl ?_
    refine o_ildN X79 H (od dB33 37 rfl) rfl ?_
    refine o_ald X79 H (od dB33 38 rfl) rfl rfl ?_
    refine o_ic X79 H (od dB33 39 rfl) (v := 0) rfl ?_
    refine o_ild X79 H (od dB33 40 rfl) rfl ?_
    refine o_tc (argsL := [(.ref tx), (.int (0 : Int32)), (.ref ty), (.int (0 : Int32)), (.int (Int32.ofNat n))]) (rest := []) X79 H hml hZ hown (ow hw 173 rfl) (ow hw 174 rfl) (ow hw 175 rfl) (ow hw 176 rfl) (backOf (W := 0) (rm34 l Z a0 hw [] tx ty kx ka a ky sb n h0 n0 (by exact Z0) Kx la Ky lb (by omega) (by omega) (by omega)) hZ (ow hw 176 rfl) (ow hw 175 rfl) (by decide) (by decide)) (by decide) e79 pd_14 (od dB33 41 rfl) rfl rfl rfl rfl rfl (by decide) (by decide) fun _ T80 Lc80 X80 hQ80 => ?_
    obtain ⟨r80, rfl, N80q, e80, hr80⟩ := hQ80
    have N80 := Fr.app N79 N80q
    show own_Fin p e below _ (T80.setTop (mkF m 73 #[.val (.ref x), .val (.ref y), .val (.int (0 : Int32)), .val (.ref tx), .val (.ref ty), .val (.int (0 : Int32)), .val (.int (Int32.ofNat n)), .val (.int (0 : Int32))] [(.int r80)]))
    by_cases hc81 : r80 < (0 : Int32)
    · refine o_ifN X80 H (od dB33 42 rfl) ((if0 _ _).trans (tlt hc81).2.1) ?_
      refine o_ic X80 H (od dB33 43 rfl) (v := 1) rfl ?_
      refine o_go X80 H (od dB33 44 rfl) (pc' := 81) (by decide) (by decide) ?_
      exact own_ret (t := .boolean) X80 hx hlk hret rfl (Or.inl ⟨rfl, (by simp), _, rfl⟩) (hb hby (od dB33 46 rfl)) (⟨_, rfl, N80, e80, Or.inl ⟨rfl, hna, hr80.mp hc81⟩⟩) (by decide) (by decide)
    · refine o_ifY X80 H (od dB33 42 rfl) ((if0 _ _).trans (flt hc81).2.1) (pc' := 80) (by decide) (by decide) ?_
      refine o_ic X80 H (od dB33 45 rfl) (v := 0) rfl ?_
      exact own_ret (t := .boolean) X80 hx hlk hret rfl (Or.inl ⟨rfl, (by simp), _, rfl⟩) (hb hby (od dB33 46 rfl)) (⟨_, rfl, N80, e80, Or.inr ⟨rfl, fun q => hc81 (hr80.mpr q.2)⟩⟩) (by decide) (by decide)
theorem dB32 : oL jdk_42_method_76_code [(0, .aload_n 0, 1), (1, .aload_n 1, 1), (2, .iconst 0, 1), (3, .invokevirtual 624, 3), (6, .ireturn, 1)] := by unfold oL; decide +kernel
theorem pd_15 : parseMethodDescriptor "(Ljava/lang/String;I)Z" = some ⟨[(.object "java/lang/String"), .int], some .boolean⟩ := by decide +kernel
theorem ef_rmSs (m : MethodId) (x0 : Addr) (x1 : Addr) : entryFrame m #[(.ref x0), (.ref x1)] 2 = mkF m 0 #[.val (.ref x0), .val (.ref x1)] [] := by first | (simp [entryFrame, mkF, argsToLocals, Value.category]; done) | rfl
def QSs (Z : State) (x : Addr) (y : Addr) (z : Int32) (tx : Addr) (kx : ClassId) (a : Nat) (ka : List Int32) (ty : Addr) (ky : ClassId) (n : Nat) (sb : List Int32) (h0 : Heap) (n0 : Nat) (v : Option Value) (h : Heap) (L : List Loc) : Prop := ∃ r : Int32, v = some (.int r) ∧ Fr n0 L ∧ h = h0 ∧ ((r = 1 ∧ (n ≤ a ∧ ∀ j, j < n → StrChars.lo8 (ka.getD j 0) = StrChars.lo8 (sb.getD j 0))) ∨ (r = 0 ∧ ¬ (n ≤ a ∧ ∀ j, j < n → StrChars.lo8 (ka.getD j 0) = StrChars.lo8 (sb.getD j 0))))
set_option maxRecDepth 65536 in
set_option maxHeartbeats 40000000 in
theorem rmSs (l : Launch) (Z : State) (a0 : Array Value) (hw : ∀ d ∈ tables_1, d.before a0 Z = true) (ws : List Jvm.Cond) (x : Addr) (y : Addr) (z : Int32) (tx : Addr) (kx : ClassId) (a : Nat) (ka : List Int32) (ty : Addr) (ky : ClassId) (n : Nat) (sb : List Int32) (h0 : Heap) (n0 : Nat) (Z0 : n0 ≤ h0.size) (hz : ¬ z = (0 : Int32)) (O : Old Z n0 h0) (SC : Sta Z Z.heap "java/lang/String" "COMPACT_STRINGS" "Z" (.int z)) (Ex : Exa Z h0 x "java/lang/String") (Cx : Fld Z h0 x "java/lang/String" "coder" "B" (.int (0 : Int32))) (Vx : Fld Z h0 x "java/lang/String" "value" "[B" (.ref tx)) (Kx : Arv Z h0 tx kx .byte (Int32.ofNat a) ((ka.map StrChars.lo8).map Value.int) (.int 0)) (hnx : ka.length = a) (Ey : Exa Z h0 y "java/lang/String") (Cy : Fld Z h0 y "java/lang/String" "coder" "B" (.int (0 : Int32))) (Vy : Fld Z h0 y "java/lang/String" "value" "[B" (.ref ty)) (Ky : Arv Z h0 ty ky .byte (Int32.ofNat n) ((sb.map StrChars.lo8).map Value.int) (.int 0)) (hny : sb.length = n) (h7 : n ≤ 7) (ha : a < 1000) :
    own_M l (⟨"java/lang/String", "startsWith", "(Ljava/lang/String;)Z"⟩ : MethodName) jdk_42_method_76_code 2 (some .boolean) ws ({ frames := 3, cells := 0, slots := 0, locals := 46 } : Room) #[(.ref x), (.ref y)] Z h0 (QSs Z x y z tx kx a ka ty ky n sb h0 n0) := by
  refine MetFree.of_bodySF (plainFor_of_name pn_2) hisR ?_
  intro p e s m args below meth cd s₁ Bd hml hP hK
  obtain ⟨rfl, hZ, hh⟩ := hP
  obtain ⟨X0, e0, H, hlk, hown, hret⟩ := own_start (R := ({ frames := 3, cells := 0, slots := 0, locals := 46 } : Room)) Bd hh rfl
  have hx := H.1; have hby := H.2; have N0 := Fr.nil n0
  show own_Fin p e below (own_Ans s (QSs Z x y z tx kx a ka ty ky n sb h0 n0) ({ frames := 3, cells := 0, slots := 0, locals := 46 } : Room).cells ({ frames := 3, cells := 0, slots := 0, locals := 46 } : Room).slots) (s₁.setTop (entryFrame m #[(.ref x), (.ref y)] 2))
  refine own_cast (ef_rmSs m x y) ?_
  show own_Fin p e below _ (s₁.setTop (mkF m 0 #[.val (.ref x), .val (.ref y)] []))
  refine o_aldN X0 H (od dB32 0 rfl) rfl rfl ?_
  refine o_aldN X0 H (od dB32 1 rfl) rfl rfl ?_
  refine o_ic X0 H (od dB32 2 rfl) (v := 0) rfl ?_
  refine o_vs (argsL := [(.ref y), (.int (0 : Int32))]) (rest := []) X0 H hml hZ hown (ow hw 167 rfl) (ow hw 168 rfl) (ow hw 170 rfl) (ow hw 169 rfl) (backOf (W := 0) (rmSi l Z a0 hw [] x y z tx kx a ka ty ky n sb h0 n0 (by exact Z0) hz O SC Ex Cx Vx Kx hnx Ey Cy Vy Ky hny (by omega) (by omega)) hZ (ow hw 171 rfl) (ow hw 6 rfl) (by decide) (by decide)) (by decide) Ex e0 pd_15 (od dB32 3 rfl) rfl rfl rfl rfl rfl (by decide) (by decide) fun _ T82 Lc82 X82 hQ82 => ?_
  obtain ⟨r82, rfl, N82q, e82, hs82⟩ := hQ82
  have N82 := Fr.app N0 N82q
  have hn82 : narrow .boolean (.int r82) = .int r82 := by rcases hs82 with ⟨rfl, -⟩ | ⟨rfl, -⟩ <;> rfl
  show own_Fin p e below _ (T82.setTop (mkF m 6 #[.val (.ref x), .val (.ref y)] [(.int r82)]))
  exact own_ret (t := .boolean) X82 hx hlk hret hn82 (Or.inl ⟨rfl, (by simp), _, rfl⟩) (hb hby (od dB32 4 rfl)) (⟨_, rfl, N82, e82, hs82⟩) (by decide) (by decide)
theorem pn_5 : plainName "com/example/covenantry/covenantry/input/Ledger" = true := by first | (simp [plainName, overriddenIn]; done) | decide +kernel
theorem dB5 : oL prog_18_method_5_code [(0, .aload_n 0, 1), (1, .aload_n 1, 1), (2, .invokevirtual 178, 3), (5, .ifCond .ne 29, 3), (8, .aload_n 0, 1), (9, .new 97, 3), (12, .dup, 1), (13, .invokespecial 99, 3), (16, .aload_n 1, 1), (17, .invokevirtual 102, 3), (20, .ldc 181, 2), (22, .invokevirtual 102, 3), (25, .invokevirtual 112, 3), (28, .invokevirtual 183, 3), (31, .ifCond .eq 7, 3), (34, .iconst 1, 1), (35, .goto 4, 3), (38, .iconst 0, 1), (39, .ireturn, 1)] := by unfold oL; decide +kernel
theorem pd_16 : parseMethodDescriptor "(Ljava/lang/Object;)Z" = some ⟨[(.object "java/lang/Object")], some .boolean⟩ := by decide +kernel
theorem pd_17 : parseMethodDescriptor "()V" = some ⟨[], none⟩ := by decide +kernel
theorem pd_18 : parseMethodDescriptor "(Ljava/lang/String;)Ljava/lang/StringBuilder;" = some ⟨[(.object "java/lang/String")], some (.object "java/lang/StringBuilder")⟩ := by decide +kernel
theorem pd_19 : parseMethodDescriptor "()Ljava/lang/String;" = some ⟨[], some (.object "java/lang/String")⟩ := by decide +kernel
theorem pd_20 : parseMethodDescriptor "(Ljava/lang/String;)Z" = some ⟨[(.object "java/lang/String")], some .boolean⟩ := by decide +kernel
theorem ef_rm5 (m : MethodId) (x0 : Addr) (x1 : Addr) : entryFrame m #[(.ref x0), (.ref x1)] 2 = mkF m 0 #[.val (.ref x0), .val (.ref x1)] [] := by first | (simp [entryFrame, mkF, argsToLocals, Value.category]; done) | rfl
def Q5 (Z : State) (x : Addr) (y : Addr) (z : Int32) (tx : Addr) (kx : ClassId) (a : Nat) (ka : List Int32) (ty : Addr) (ky : ClassId) (n : Nat) (sb : List Int32) (h0 : Heap) (n0 : Nat) (v : Option Value) (h : Heap) (L : List Loc) : Prop := ∃ r : Int32, v = some (.int r) ∧ Fr n0 L ∧ Keep h0 h [] ∧ ((r = 1 ∧ own_U ka sb) ∨ (r = 0 ∧ ¬ own_U ka sb))
set_option maxRecDepth 65536 in
set_option maxHeartbeats 40000000 in
theorem rm5 (l : Launch) (Z : State) (a0 : Array Value) (hw : ∀ d ∈ tables_1, d.before a0 Z = true) (ws : List Jvm.Cond) (x : Addr) (y : Addr) (z : Int32) (tx : Addr) (kx : ClassId) (a : Nat) (ka : List Int32) (ty : Addr) (ky : ClassId) (n : Nat) (sb : List Int32) (h0 : Heap) (n0 : Nat) (Z0 : n0 ≤ h0.size) (hEL : EW Z a0 own_EL) (hz : ¬ z = (0 : Int32)) (O : Old Z n0 h0) (SC : Sta Z Z.heap "java/lang/String" "COMPACT_STRINGS" "Z" (.int z)) (Ex : Exa Z h0 x "java/lang/String") (Cx : Fld Z h0 x "java/lang/String" "coder" "B" (.int (0 : Int32))) (Vx : Fld Z h0 x "java/lang/String" "value" "[B" (.ref tx)) (Kx : Arv Z h0 tx kx .byte (Int32.ofNat a) ((ka.map StrChars.lo8).map Value.int) (.int 0)) (hnx : ka.length = a) (Ey : Exa Z h0 y "java/lang/String") (Cy : Fld Z h0 y "java/lang/String" "coder" "B" (.int (0 : Int32))) (Vy : Fld Z h0 y "java/lang/String" "value" "[B" (.ref ty)) (Ky : Arv Z h0 ty ky .byte (Int32.ofNat n) ((sb.map StrChars.lo8).map Value.int) (.int 0)) (hny : sb.length = n) (rgx : ∀ q_ ∈ ka, ¬ q_ < 0 ∧ ¬ (255 : Int32) < q_) (rgy : ∀ q_ ∈ sb, ¬ q_ < 0 ∧ ¬ (255 : Int32) < q_) (ha : a ≤ 4) (hn : n ≤ 3) :
    MetFree l (⟨"com/example/covenantry/covenantry/input/Ledger", "isUnder", "(Ljava/lang/String;Ljava/lang/String;)Z"⟩ : MethodName) (head1 (Jvm.Cond.code (⟨"com/example/covenantry/covenantry/input/Ledger", "isUnder", "(Ljava/lang/String;Ljava/lang/String;)Z"⟩ : MethodName) prog_18_method_5_code 2 (some .boolean) :: ws) ({ frames := 6, cells := 6, slots := 40, locals := 92 } : Room)) (fun as_ U => as_ = #[(.ref x), (.ref y)] ∧ Z.Warmed39 U.vm ∧ U.heap = h0 ∧ CHv Z own_EL U.vm h0) (fun _ _ _ _ _ => True) (fun _ U out_ U' => ∃ v L, out_ = .returned v ∧ Q5 Z x y z tx kx a ka ty ky n sb h0 n0 v U'.heap L ∧ CHr Z own_EL U.vm U.heap U'.vm U'.heap ∧ ReturnedEndW U out_ U' L ({ frames := 6, cells := 6, slots := 40, locals := 92 } : Room).cells ({ frames := 6, cells := 6, slots := 40, locals := 92 } : Room).slots) := by
  refine MetFree.of_bodySF (plainFor_of_name pn_5) hisR ?_
  intro p e s m args below meth cd s₁ Bd hml0 hP hK
  obtain ⟨rfl, hZ, hh, CH0⟩ := hP
  have hx := Bd.exec
  have hby := Bd.bytes
  have hml : cd.maxLocals = 2 := hml0
  have hlk : meth.locks = false := BodyLoose.notSynchronized Bd
  have hown : s.vm.findClass "com/example/covenantry/covenantry/input/Ledger" = some m.cls := findClass_of_methodNamed Bd.named
  have hnm := (name_of_methodNamed Bd.named Bd.method).1
  have hret := Bd.returns
  have H := And.intro hx hby
  have X0 : Stand p l e ({ frames := 6, cells := 6, slots := 40, locals := 92 } : Room) (s.setVm s.vm) m #[(.ref x), (.ref y)] below meth cd s₁ [] 0 0 := Stand.of_body Bd
  have e0 : s₁.heap = h0 := by rw [← hh, Bd.state]; rfl
  have N0 := Fr.nil n0
  have hS0 : s.Since s.vm 0 := (State.WarmedH.refl s).since 0
  have wS := own_wS hw
  show own_Fin p e below (own_AnsW s Z own_EL (Q5 Z x y z tx kx a ka ty ky n sb h0 n0) ({ frames := 6, cells := 6, slots := 40, locals := 92 } : Room).cells ({ frames := 6, cells := 6, slots := 40, locals := 92 } : Room).slots) (s₁.setTop (entryFrame m #[(.ref x), (.ref y)] 2))
  refine own_cast (ef_rm5 m x y) ?_
  show own_Fin p e below _ (s₁.setTop (mkF m 0 #[.val (.ref x), .val (.ref y)] []))
  refine o_aldN X0 H (od dB5 0 rfl) rfl rfl ?_
  refine o_aldN X0 H (od dB5 1 rfl) rfl rfl ?_
  obtain ⟨cq83, kq83, q83a, q83b, q83c⟩ := isOf hZ e0 Ex
  obtain ⟨_, _, ⟨T83, L83, k83, n83⟩, -, X83, ⟨Lc83, hQ83, l83, y83, z83⟩, st83⟩ := X0.virtualBack hx (y := (⟨"java/lang/String", "equals", "(Ljava/lang/Object;)Z"⟩ : MethodName)) (z := (⟨"java/lang/String", "equals", "(Ljava/lang/Object;)Z"⟩ : MethodName)) hown (mvT hZ (ow hw 30 rfl)) (mvT hZ (ow hw 31 rfl)) (notFace_of_selects (args := #[]) (mvT hZ (ow hw 33 rfl))) (mvT hZ (ow hw 33 rfl)) (mvT hZ (ow hw 32 rfl)) (by decide) (StrChars.Road.eqW (W := 0) hZ (own_wE hw) (ow hw 5 rfl) Ex Vx Cx Kx (own_cod hnx (fun c q => (rgx c q).2)) (own_r16 rgx) (by rw [hnx]; omega) Ey Vy Cy Ky (own_cod hny (fun c q => (rgy c q).2)) (own_r16 rgy) (by rw [hny]; omega) (SC.ext O.2) hz (by decide) (by decide)) q83a q83c (g := (mkF m 2 #[.val (.ref x), .val (.ref y)] [(.ref y), (.ref x)])) rfl hml.symm (Steps.refl _) (argsL := [(.ref y)]) (rest := []) (lenOf pd_16 rfl) rfl (o_mr rfl) (hb hby (od dB5 2 rfl)) (fun _ _ => ⟨rfl, e0, (by decide : 0 + 0 ≤ _), (by decide : 0 + 0 ≤ _)⟩)
  dsimp only [Pt.U, Pt.locs, Pt.cells, Pt.slots] at X83 l83 y83 z83 st83 hQ83
  replace l83 := l83.symm; replace y83 := y83.symm; replace z83 := z83.symm; subst l83 y83 z83
  obtain ⟨hv83, rfl, e83⟩ := hQ83
  have N83 := Fr.app N0 (Fr.nil n0)
  by_cases hE : ka = sb
  · obtain rfl := own_eq1 hv83 hE
    refine own_via st83 ?_
    show own_Fin p e below _ (T83.setTop (mkF m 5 #[.val (.ref x), .val (.ref y)] [(.int (1 : Int32))]))
    refine o_ifY X83 H (od dB5 3 rfl) ((if0 _ _).trans (feq (by decide : ¬ ((1 : Int32) = (0 : Int32)))).2) (pc' := 34) (by decide) (by decide) ?_
    refine o_ic X83 H (od dB5 15 rfl) (v := 1) rfl ?_
    refine o_go X83 H (od dB5 16 rfl) (pc' := 39) (by decide) (by decide) ?_
    exact own_retW (t := .boolean) X83 (Z := Z) (EL := own_EL) (a0 := a0) hx hlk hret rfl (Or.inl ⟨rfl, (by simp), _, rfl⟩) (hb hby (od dB5 18 rfl)) hS0 (by rw [e83]; exact (Nat.zero_le _)) hZ hEL (by rw [hh, e83]; exact (CHr.refl CH0)) (by show Q5 Z x y z tx kx a ka ty ky n sb h0 n0 _ T83.heap _; rw [e83]; exact ⟨_, rfl, N83, (Keep.refl h0 []), Or.inl ⟨rfl, Or.inl hE⟩⟩) (by decide) (by decide)
  · obtain rfl := own_eq0 hv83 hE
    refine own_via st83 ?_
    show own_Fin p e below _ (T83.setTop (mkF m 5 #[.val (.ref x), .val (.ref y)] [(.int (0 : Int32))]))
    refine o_ifN X83 H (od dB5 3 rfl) ((if0 _ _).trans (teq (by decide : (0 : Int32) = (0 : Int32))).2) ?_
    refine o_aldN X83 H (od dB5 4 rfl) rfl rfl ?_
    obtain ⟨T84, h84, X84, e84, E84, A84, D84, -, st84⟩ := newO X83 hx hZ hown (ow hw 51 rfl) (ow hw 52 rfl) (ow hw 53 rfl) e83 (g := (mkF m 9 #[.val (.ref x), .val (.ref y)] [(.ref x)])) rfl (hb hby (od dB5 5 rfl)) (by decide) (by decide)
    obtain ⟨b84, g84⟩ : ∃ z, z = h0.size := ⟨_, rfl⟩
    rw [← g84] at A84 D84 st84
    have ne84_x : x ≠ b84 := own_ne_of (Z := Z) Ex.lt g84
    have ne84_tx : tx ≠ b84 := own_ne_of (Z := Z) Kx.lt g84
    have ne84_y : y ≠ b84 := own_ne_of (Z := Z) Ey.lt g84
    have ne84_ty : ty ≠ b84 := own_ne_of (Z := Z) Ky.lt g84
    have gn84 : n0 ≤ b84 := Nat.le_trans Z0 (Nat.le_of_eq g84.symm)
    have gk84 : h0.size ≤ b84 := Nat.le_trans (Keep.refl h0 []).1 (Nat.le_of_eq g84.symm)
    have F84_value : Fld Z h84 b84 "java/lang/AbstractStringBuilder" "value" "[B" .null := D84 (Or.inl (ow hw 66 rfl)) (ty := (.array .byte)) (by decide)
    have F84_coder : Fld Z h84 b84 "java/lang/AbstractStringBuilder" "coder" "B" (.int (0 : Int32)) := D84 (Or.inl (ow hw 68 rfl)) (ty := .byte) (by decide)
    have F84_count : Fld Z h84 b84 "java/lang/AbstractStringBuilder" "count" "I" (.int (0 : Int32)) := D84 (Or.inl (ow hw 90 rfl)) (ty := .int) (by decide)
    refine own_on st84 ?_
    show own_Fin p e below _ (T84.setTop (mkF m 12 #[.val (.ref x), .val (.ref y)] [(.ref b84), (.ref x)]))
    refine o_dup X84 H (od dB5 6 rfl) rfl ?_
    refine o_sc (b := b84) (argsL := []) (rest := [(.ref b84), (.ref x)]) X84 H hml hZ hown (ow hw 54 rfl) (ow hw 55 rfl) (ow hw 56 rfl) (backOf (W := 2) (rm11 l Z a0 hw [] b84 z h84 n0 (by exact (Nat.le_trans Z0 E84.1)) hz (O.ext E84) SC A84 F84_value F84_count F84_coder gn84) hZ (ow hw 56 rfl) (ow hw 53 rfl) (by decide) (by decide)) rfl (by decide) e84 pd_17 (od dB5 7 rfl) rfl rfl rfl rfl rfl (by decide) (by decide) fun _ T85 Lc85 X85 hQ85 => ?_
    obtain ⟨tb85, kt85, rfl, N85q, K85, gt85, gk85, Eq85, Vq85, Cq85, Dq85, Aq85⟩ := hQ85
    have ne85_x : x ≠ tb85 := Nat.ne_of_lt (Nat.lt_of_lt_of_le (Ex.ext E84).lt gk85)
    have ne85_tx : tx ≠ tb85 := Nat.ne_of_lt (Nat.lt_of_lt_of_le (Kx.ext E84).lt gk85)
    have ne85_y : y ≠ tb85 := Nat.ne_of_lt (Nat.lt_of_lt_of_le (Ey.ext E84).lt gk85)
    have ne85_ty : ty ≠ tb85 := Nat.ne_of_lt (Nat.lt_of_lt_of_le (Ky.ext E84).lt gk85)
    have ne85_b84 : b84 ≠ tb85 := Nat.ne_of_lt (Nat.lt_of_lt_of_le A84.lt gk85)
    have N85 := Fr.app N83 N85q
    have y86 := (CHr.trans (CHr.trans (CHr.refl CH0) (CHr.ext E84 CH0)) (CHr.keep K85 (sfS (Safe.ext E84 CH0 (Safe.new (Nat.le_of_eq g84.symm))) sf0) (CHv.ext E84 CH0)))
    have y87 := (Safe.keep K85 (sfS (Safe.ext E84 CH0 (Safe.new (Nat.le_of_eq g84.symm))) sf0) (CHv.ext E84 CH0) (Safe.ext E84 CH0 (Safe.new (Nat.le_of_eq g84.symm))))
    have Ae85 : Arv Z T85.heap tb85 kt85 .byte (16 : Int32) ((([] : List Int32).map StrChars.lo8).map Value.int) (.int 0) := Aq85.pad (fun i => (pad_rep [] (.int 0) 16 i).symm)
    have y88 := (Safe.keep K85 (sfS (Safe.ext E84 CH0 (Safe.new (Nat.le_of_eq g84.symm))) sf0) (CHv.ext E84 CH0) (Safe.new gk85))
    show own_Fin p e below _ (T85.setTop (mkF m 16 #[.val (.ref x), .val (.ref y)] [(.ref b84), (.ref x)]))
    refine o_aldN X85 H (od dB5 8 rfl) rfl rfl ?_
    refine o_vs (argsL := [(.ref y)]) (rest := [(.ref x)]) X85 H hml hZ hown (ow hw 69 rfl) (ow hw 70 rfl) (ow hw 72 rfl) (ow hw 71 rfl) (backOf (W := 1) (rmQbn16 l Z a0 hw [] b84 y z tb85 kt85 0 ([] : List Int32) ty ky n sb T85.heap n0 (by exact (Nat.le_trans (Nat.le_trans Z0 E84.1) K85.1)) hz ((O.ext E84).keep K85 (allS gn84 all0)) SC Eq85 Vq85 Cq85 Dq85 Ae85 gn84 gt85 ne85_b84 (rfl : ([] : List Int32).length = 0) ((Ey.ext E84).keep K85) ((Cy.ext E84).keep K85 (ninS ne84_y nin0)) ((Vy.ext E84).keep K85 (ninS ne84_y nin0)) ((Ky.ext E84).keep K85 (ninS ne84_ty nin0)) hny ne85_ty ne84_ty ne85_y ne84_y (by omega)) hZ (ow hw 73 rfl) (ow hw 53 rfl) (by decide) (by decide)) (by decide) Eq85 rfl pd_18 (od dB5 9 rfl) rfl rfl rfl rfl rfl (by decide) (by decide) fun _ T89 Lc89 X89 hQ89 => ?_
    have Lq89 : (([] : List Int32) ++ sb).length = (0 + n) := own_la (rfl : ([] : List Int32).length = 0) hny
    obtain ⟨rfl, N89q, K89, Eq89, Vq89, Cq89, Dq89, Aq89⟩ := hQ89
    have N89 := Fr.app N85 N89q
    have y90 := (CHv.keep K89 (sfS y87 (sfS y88 sf0)) (CHv.keep K85 (sfS (Safe.ext E84 CH0 (Safe.new (Nat.le_of_eq g84.symm))) sf0) (CHv.ext E84 CH0)))
    have y91 := (CHr.trans y86 (CHr.keep K89 (sfS y87 (sfS y88 sf0)) (CHv.keep K85 (sfS (Safe.ext E84 CH0 (Safe.new (Nat.le_of_eq g84.symm))) sf0) (CHv.ext E84 CH0))))
    have y92 := ((((Keep.refl h0 []).ext E84).trans K85 (allS (Or.inr gk84) all0)).trans K89 (allS (Or.inr gk84) (allS (Or.inr (Nat.le_trans ((Keep.refl h0 []).ext E84).1 gk85)) all0)))
    have y93 := (Safe.keep K89 (sfS y87 (sfS y88 sf0)) (CHv.keep K85 (sfS (Safe.ext E84 CH0 (Safe.new (Nat.le_of_eq g84.symm))) sf0) (CHv.ext E84 CH0)) y87)
    have y94 := (Safe.keep K89 (sfS y87 (sfS y88 sf0)) (CHv.keep K85 (sfS (Safe.ext E84 CH0 (Safe.new (Nat.le_of_eq g84.symm))) sf0) (CHv.ext E84 CH0)) y88)
    show own_Fin p e below _ (T89.setTop (mkF m 20 #[.val (.ref x), .val (.ref y)] [(.ref b84), (.ref x)]))
    obtain ⟨a95, T95, h95, k95, c95, kc95, X95, e95, E95, hS95, hk95, hZ95, hown95, Ea95, Ca95, Va95, Aa95, la95, lc95, A95, Lt95, sf95, st95⟩ := ldcCH X89 hx hZ hown (ow hw 116 rfl) wS rfl hS0 (Nat.le_trans (Nat.le_trans (Nat.le_trans (Nat.zero_le _) E84.1) K85.1) K89.1) hEL (by decide) y90 (vs := [(.int (40 : Int32))]) (z := (1 : Int32)) ⟨by decide, rfl⟩ (by decide) rfl (g := (mkF m 20 #[.val (.ref x), .val (.ref y)] [(.ref b84), (.ref x)])) rfl (hb hby (od dB5 10 rfl)) (n := 4) (by decide) (by decide) (by decide) (by decide)
    have ns96 := sf95 _ (CHr.safe A95 Eq89.lt y93)
    have ns97 := sf95 _ (CHr.safe A95 Aq89.lt y94)
    refine own_on st95 ?_
    show own_Fin p e below _ (T95.setTop (mkF m 22 #[.val (.ref x), .val (.ref y)] [(.ref a95), (.ref b84), (.ref x)]))
    have KL98 : Arv Z h95 c95 kc95 .byte (1 : Int32) ((([40] : List Int32).map StrChars.lo8).map Value.int) (.int 0) := by show Arv Z h95 c95 kc95 .byte (1 : Int32) [(.int (StrChars.lo8 (40 : Int32)))] (.int 0); rw [show StrChars.lo8 (40 : Int32) = 40 from by decide]; exact Aa95
    refine o_vs (argsL := [(.ref a95)]) (rest := [(.ref x)]) X95 H hml hZ95 hown95 (ow hw 69 rfl) (ow hw 70 rfl) (ow hw 72 rfl) (ow hw 71 rfl) (backOf (W := 1) (rmQbn16 l Z a0 hw [] b84 a95 z tb85 kt85 (0 + n) (([] : List Int32) ++ sb) c95 kc95 1 ([40] : List Int32) h95 n0 (by exact (Nat.le_trans (Nat.le_trans (Nat.le_trans (Nat.le_trans Z0 E84.1) K85.1) K89.1) E95.1)) hz ((((O.ext E84).keep K85 (allS gn84 all0)).keep K89 (allS gn84 (allS gt85 all0))).ext E95) SC (Eq89.ext E95) (Vq89.ext E95) (Cq89.ext E95) (Dq89.ext E95) (Aq89.ext E95) gn84 gt85 ne85_b84 Lq89 Ea95 Ca95 Va95 KL98 (rfl : ([40] : List Int32).length = 1) (Ne.symm ns97.2) (Ne.symm ns96.2) (Ne.symm ns97.1) (Ne.symm ns96.1) (by omega)) hZ95 (ow hw 73 rfl) (ow hw 53 rfl) (by decide) (by decide)) (by decide) (Eq89.ext E95) e95 pd_18 (od dB5 11 rfl) rfl rfl rfl rfl rfl (by decide) (by decide) fun _ T99 Lc99 X99 hQ99 => ?_
    have Lq99 : ((([] : List Int32) ++ sb) ++ ([40] : List Int32)).length = ((0 + n) + 1) := own_la Lq89 (rfl : ([40] : List Int32).length = 1)
    obtain ⟨rfl, N99q, K99, Eq99, Vq99, Cq99, Dq99, Aq99⟩ := hQ99
    have N99 := Fr.app N89 N99q
    have y100 := ((y92.ext E95).trans K99 (allS (Or.inr gk84) (allS (Or.inr (Nat.le_trans ((Keep.refl h0 []).ext E84).1 gk85)) all0)))
    have y101 := (((((O.ext E84).keep K85 (allS gn84 all0)).keep K89 (allS gn84 (allS gt85 all0))).ext E95).keep K99 (allS gn84 (allS gt85 all0)))
    have y102 := (((((Cx.ext E84).keep K85 (ninS ne84_x nin0)).keep K89 (ninS ne84_x (ninS ne85_x nin0))).ext E95).keep K99 (ninS ne84_x (ninS ne85_x nin0)))
    have y103 := (((((Vx.ext E84).keep K85 (ninS ne84_x nin0)).keep K89 (ninS ne84_x (ninS ne85_x nin0))).ext E95).keep K99 (ninS ne84_x (ninS ne85_x nin0)))
    have y104 := (((((Kx.ext E84).keep K85 (ninS ne84_tx nin0)).keep K89 (ninS ne84_tx (ninS ne85_tx nin0))).ext E95).keep K99 (ninS ne84_tx (ninS ne85_tx nin0)))
    have y105 := (((((Cy.ext E84).keep K85 (ninS ne84_y nin0)).keep K89 (ninS ne84_y (ninS ne85_y nin0))).ext E95).keep K99 (ninS ne84_y (ninS ne85_y nin0)))
    have y106 := (((((Vy.ext E84).keep K85 (ninS ne84_y nin0)).keep K89 (ninS ne84_y (ninS ne85_y nin0))).ext E95).keep K99 (ninS ne84_y (ninS ne85_y nin0)))
    have y107 := (((((Ky.ext E84).keep K85 (ninS ne84_ty nin0)).keep K89 (ninS ne84_ty (ninS ne85_ty nin0))).ext E95).keep K99 (ninS ne84_ty (ninS ne85_ty nin0)))
    have y108 := (Safe.keep K99 (sfS (CHr.safe A95 Eq89.lt y93) (sfS (CHr.safe A95 Aq89.lt y94) sf0)) (And.left A95) (CHr.safe A95 Eq89.lt y93))
    have y109 := (Safe.keep K99 (sfS (CHr.safe A95 Eq89.lt y93) (sfS (CHr.safe A95 Aq89.lt y94) sf0)) (And.left A95) (CHr.safe A95 Aq89.lt y94))
    have y110 := (CHr.trans (CHr.trans y91 A95) (CHr.keep K99 (sfS (CHr.safe A95 Eq89.lt y93) (sfS (CHr.safe A95 Aq89.lt y94) sf0)) (And.left A95)))
    show own_Fin p e below _ (T99.setTop (mkF m 25 #[.val (.ref x), .val (.ref y)] [(.ref b84), (.ref x)]))
    refine o_vs (argsL := []) (rest := [(.ref x)]) X99 H hml hZ95 hown95 (ow hw 117 rfl) (ow hw 118 rfl) (ow hw 120 rfl) (ow hw 119 rfl) (backOf (W := 1) (rmTs l Z a0 hw [] b84 z tb85 kt85 ((0 + n) + 1) ((([] : List Int32) ++ sb) ++ ([40] : List Int32)) 16 T99.heap n0 (by exact (Nat.le_trans (Nat.le_trans (Nat.le_trans (Nat.le_trans (Nat.le_trans Z0 E84.1) K85.1) K89.1) E95.1) K99.1)) hz y101 SC Eq99 Vq99 Cq99 Dq99 Aq99 gn84 gt85 ne85_b84 Lq99 (by omega) (by omega) (by omega)) hZ95 (ow hw 121 rfl) (ow hw 53 rfl) (by decide) (by decide)) (by decide) Eq99 rfl pd_19 (od dB5 12 rfl) rfl rfl rfl rfl rfl (by decide) (by decide) fun _ T111 Lc111 X111 hQ111 => ?_
    obtain ⟨y111s, x111, kx111, rfl, N111q, K111, gk111, gx111, Eq111, Cq111, Vq111, Aq111⟩ := hQ111
    have N111 := Fr.app N99 N111q
    have y112 := (Nat.le_trans (Nat.le_trans (Nat.le_trans (Nat.le_trans (Nat.le_trans (Nat.le_trans Z0 E84.1) K85.1) K89.1) E95.1) K99.1) K111.1)
    have y113 := (Safe.keep K111 sf0 (CHv.keep K99 (sfS (CHr.safe A95 Eq89.lt y93) (sfS (CHr.safe A95 Aq89.lt y94) sf0)) (And.left A95)) y108)
    have y114 := (Safe.keep K111 sf0 (CHv.keep K99 (sfS (CHr.safe A95 Eq89.lt y93) (sfS (CHr.safe A95 Aq89.lt y94) sf0)) (And.left A95)) y109)
    have y115 := (CHr.trans y110 (CHr.keep K111 sf0 (CHv.keep K99 (sfS (CHr.safe A95 Eq89.lt y93) (sfS (CHr.safe A95 Aq89.lt y94) sf0)) (And.left A95))))
    have y116 := (CHv.keep K111 sf0 (CHv.keep K99 (sfS (CHr.safe A95 Eq89.lt y93) (sfS (CHr.safe A95 Aq89.lt y94) sf0)) (And.left A95)))
    show own_Fin p e below _ (T111.setTop (mkF m 28 #[.val (.ref x), .val (.ref y)] [(.ref y111s), (.ref x)]))
    refine o_vs (argsL := [(.ref y111s)]) (rest := []) X111 H hml hZ95 hown95 (ow hw 162 rfl) (ow hw 163 rfl) (ow hw 165 rfl) (ow hw 164 rfl) (backOf (W := 0) (rmSs l Z a0 hw [] x y111s z tx kx a ka x111 kx111 ((0 + n) + 1) ((([] : List Int32) ++ sb) ++ ([40] : List Int32)) T111.heap n0 (by exact y112) hz (y101.keep K111 all0) SC ((((((Ex.ext E84).keep K85).keep K89).ext E95).keep K99).keep K111) (y102.keep K111 nin0) (y103.keep K111 nin0) (y104.keep K111 nin0) hnx Eq111 Cq111 Vq111 Aq111 Lq99 (by omega) (by omega)) hZ95 (ow hw 166 rfl) (ow hw 6 rfl) (by decide) (by decide)) (by decide) ((((((Ex.ext E84).keep K85).keep K89).ext E95).keep K99).keep K111) rfl pd_20 (od dB5 13 rfl) rfl rfl rfl rfl rfl (by decide) (by decide) fun _ T117 Lc117 X117 hQ117 => ?_
    obtain ⟨r117, rfl, N117q, e117, hs117⟩ := hQ117
    have N117 := Fr.app N111 N117q
    have hn117 : narrow .boolean (.int r117) = .int r117 := by rcases hs117 with ⟨rfl, -⟩ | ⟨rfl, -⟩ <;> rfl
    show own_Fin p e below _ (T117.setTop (mkF m 31 #[.val (.ref x), .val (.ref y)] [(.int r117)]))
    rcases hs117 with ⟨rfl, hq⟩ | ⟨rfl, hq⟩
    · show own_Fin p e below _ (T117.setTop (mkF m 31 #[.val (.ref x), .val (.ref y)] [(.int (1 : Int32))]))
      refine o_ifN X117 H (od dB5 14 rfl) ((if0 _ _).trans (feq (by decide : ¬ ((1 : Int32) = (0 : Int32)))).1) ?_
      refine o_ic X117 H (od dB5 15 rfl) (v := 1) rfl ?_
      refine o_go X117 H (od dB5 16 rfl) (pc' := 39) (by decide) (by decide) ?_
      exact own_retW (t := .boolean) X117 (Z := Z) (EL := own_EL) (a0 := a0) hx hlk hret rfl (Or.inl ⟨rfl, (by simp), _, rfl⟩) (hb hby (od dB5 18 rfl)) hS95 (by rw [e117]; exact (Nat.le_trans (Nat.le_trans hk95 K99.1) K111.1)) hZ95 hEL (by rw [hh, e117]; exact y115) (by show Q5 Z x y z tx kx a ka ty ky n sb h0 n0 _ T117.heap _; rw [e117]; exact ⟨_, rfl, N117, (y100.trans K111 all0), Or.inl ⟨rfl, (own_Uc rgx rgy hE hnx hny).mpr hq⟩⟩) (by decide) (by decide)
    · show own_Fin p e below _ (T117.setTop (mkF m 31 #[.val (.ref x), .val (.ref y)] [(.int (0 : Int32))]))
      refine o_ifY X117 H (od dB5 14 rfl) ((if0 _ _).trans (teq (by decide : (0 : Int32) = (0 : Int32))).1) (pc' := 38) (by decide) (by decide) ?_
      refine o_ic X117 H (od dB5 17 rfl) (v := 0) rfl ?_
      exact own_retW (t := .boolean) X117 (Z := Z) (EL := own_EL) (a0 := a0) hx hlk hret rfl (Or.inl ⟨rfl, (by simp), _, rfl⟩) (hb hby (od dB5 18 rfl)) hS95 (by rw [e117]; exact (Nat.le_trans (Nat.le_trans hk95 K99.1) K111.1)) hZ95 hEL (by rw [hh, e117]; exact y115) (by show Q5 Z x y z tx kx a ka ty ky n sb h0 n0 _ T117.heap _; rw [e117]; exact ⟨_, rfl, N117, (y100.trans K111 all0), Or.inr ⟨rfl, fun u => hq ((own_Uc rgx rgy hE hnx hny).mp u)⟩⟩) (by decide) (by decide)
theorem dB3 : oL jdk_42_method_149_code [(0, .aload_n 0, 1), (1, .invokespecial 1, 3), (4, .iload_n 3, 1), (5, .ifCond .ne 22, 3), (8, .aload_n 0, 1), (9, .ldc 7, 2), (11, .getfield 9, 3), (14, .putfield 9, 3), (17, .aload_n 0, 1), (18, .ldc 7, 2), (20, .getfield 15, 3), (23, .putfield 15, 3), (26, .return_, 1), (27, .getstatic 38, 3), (30, .ifCond .eq 28, 3), (33, .aload_n 1, 1), (34, .iload_n 2, 1), (35, .iload_n 3, 1), (36, .invokestatic 177, 3), (39, .astore 5, 2), (41, .aload_n 0, 1), (42, .aload 5, 2), (44, .iload_n 3, 1), (45, .invokestatic 47, 3), (48, .putfield 15, 3), (51, .aload_n 0, 1), (52, .aload 5, 2), (54, .putfield 9, 3), (57, .return_, 1), (58, .aload_n 0, 1), (59, .iconst 1, 1), (60, .putfield 15, 3), (63, .aload_n 0, 1), (64, .aload_n 1, 1), (65, .iload_n 2, 1), (66, .iload_n 3, 1), (67, .invokestatic 180, 3), (70, .putfield 9, 3), (73, .return_, 1)] := by unfold oL; decide +kernel
theorem ef_rmE4 (m : MethodId) (x0 : Addr) (x1 : Addr) (x2 : Int32) (x3 : Int32) : entryFrame m #[(.ref x0), (.ref x1), (.int x2), (.int x3), .null] 6 = mkF m 0 #[.val (.ref x0), .val (.ref x1), .val (.int x2), .val (.int x3), .val .null, .unset] [] := by first | (simp [entryFrame, mkF, argsToLocals, Value.category]; done) | rfl
def QE4 (Z : State) (a : Addr) (b : Addr) (h0 : Heap) (n0 : Nat) (v : Option Value) (h : Heap) (L : List Loc) : Prop := v = none ∧ Fr n0 L ∧ Keep h0 h [a] ∧ ∃ (t : Addr) (kb : ClassId), Exa Z h a "java/lang/String" ∧ Fld Z h a "java/lang/String" "coder" "B" (.int 0) ∧ Fld Z h a "java/lang/String" "value" "[B" (.ref t) ∧ Arv Z h t kb .byte (0 : Int32) [] (.int 0)
set_option maxRecDepth 65536 in
set_option maxHeartbeats 40000000 in
theorem rmE4 (l : Launch) (Z : State) (a0 : Array Value) (hw : ∀ d ∈ tables_1, d.before a0 Z = true) (ws : List Jvm.Cond) (a : Addr) (b : Addr) (h0 : Heap) (n0 : Nat) (Z0 : n0 ≤ h0.size) (hEL : EW Z a0 own_EL) (E : Exa Z h0 a "java/lang/String") (V0 : Fld Z h0 a "java/lang/String" "value" "[B" .null) (C0 : Fld Z h0 a "java/lang/String" "coder" "B" (.int (0 : Int32))) (ga : n0 ≤ a) :
    MetFree l (⟨"java/lang/String", "<init>", "([CIILjava/lang/Void;)V"⟩ : MethodName) (head1 (Jvm.Cond.code (⟨"java/lang/String", "<init>", "([CIILjava/lang/Void;)V"⟩ : MethodName) jdk_42_method_149_code 6 none :: ws) ({ frames := 1, cells := 4, slots := 8, locals := 13 } : Room)) (fun as_ U => as_ = #[(.ref a), (.ref b), (.int (0 : Int32)), (.int (0 : Int32)), .null] ∧ Z.Warmed39 U.vm ∧ U.heap = h0 ∧ CHv Z own_EL U.vm h0 ∧ Safe Z own_EL U.vm h0 a) (fun _ _ _ _ _ => True) (fun _ U out_ U' => ∃ v L, out_ = .returned v ∧ QE4 Z a b h0 n0 v U'.heap L ∧ CHr Z own_EL U.vm U.heap U'.vm U'.heap ∧ ReturnedEndW U out_ U' L ({ frames := 1, cells := 4, slots := 8, locals := 13 } : Room).cells ({ frames := 1, cells := 4, slots := 8, locals := 13 } : Room).slots) := by
  refine MetFree.of_bodySF (plainFor_of_name pn_2) hisR ?_
  intro p e s m args below meth cd s₁ Bd hml0 hP hK
  obtain ⟨rfl, hZ, hh, CH0, hEx⟩ := hP
  have hx := Bd.exec
  have hby := Bd.bytes
  have hml : cd.maxLocals = 6 := hml0
  have hlk : meth.locks = false := BodyLoose.notSynchronized Bd
  have hown : s.vm.findClass "java/lang/String" = some m.cls := findClass_of_methodNamed Bd.named
  have hnm := (name_of_methodNamed Bd.named Bd.method).1
  have hret := Bd.returns
  have H := And.intro hx hby
  have X0 : Stand p l e ({ frames := 1, cells := 4, slots := 8, locals := 13 } : Room) (s.setVm s.vm) m #[(.ref a), (.ref b), (.int (0 : Int32)), (.int (0 : Int32)), .null] below meth cd s₁ [] 0 0 := Stand.of_body Bd
  have e0 : s₁.heap = h0 := by rw [← hh, Bd.state]; rfl
  have N0 := Fr.nil n0
  have hS0 : s.Since s.vm 0 := (State.WarmedH.refl s).since 0
  have wS := own_wS hw
  show own_Fin p e below (own_AnsW s Z own_EL (QE4 Z a b h0 n0) ({ frames := 1, cells := 4, slots := 8, locals := 13 } : Room).cells ({ frames := 1, cells := 4, slots := 8, locals := 13 } : Room).slots) (s₁.setTop (entryFrame m #[(.ref a), (.ref b), (.int (0 : Int32)), (.int (0 : Int32)), .null] 6))
  refine own_cast (ef_rmE4 m a b (0 : Int32) (0 : Int32)) ?_
  show own_Fin p e below _ (s₁.setTop (mkF m 0 #[.val (.ref a), .val (.ref b), .val (.int (0 : Int32)), .val (.int (0 : Int32)), .val .null, .unset] []))
  refine o_aldN X0 H (od dB3 0 rfl) rfl rfl ?_
  obtain ⟨T118, X118, e118, st118⟩ := initO X0 hx hZ hown (ow hw 15 rfl) (ow hw 16 rfl) (ow hw 17 rfl) e0 (g := (mkF m 1 #[.val (.ref a), .val (.ref b), .val (.int (0 : Int32)), .val (.int (0 : Int32)), .val .null, .unset] [(.ref a)])) rfl (by rw [hml]; rfl) rfl (hb hby (od dB3 1 rfl)) (by decide) (W := 0) (by show 2 * 0 + _ ≤ _; exact Nat.le_of_eq rfl) (by decide)
  refine own_on st118 ?_
  show own_Fin p e below _ (T118.setTop (mkF m 4 #[.val (.ref a), .val (.ref b), .val (.int (0 : Int32)), .val (.int (0 : Int32)), .val .null, .unset] []))
  refine o_ildN X118 H (od dB3 2 rfl) rfl ?_
  refine o_ifN X118 H (od dB3 3 rfl) ((if0 _ _).trans (teq (by decide : (0 : Int32) = (0 : Int32))).2) ?_
  refine o_aldN X118 H (od dB3 4 rfl) rfl rfl ?_
  obtain ⟨a119, T119, h119, k119, c119, kc119, X119, e119, E119, hS119, hk119, hZ119, hown119, Ea119, Ca119, Va119, Aa119, la119, lc119, A119, Lt119, sf119, st119⟩ := ldcCH X118 hx hZ hown (ow hw 18 rfl) wS e118 hS0 (Nat.zero_le _) hEL (by decide) CH0 (vs := []) (z := (0 : Int32)) ⟨by decide, rfl⟩ (by decide) rfl (g := (mkF m 9 #[.val (.ref a), .val (.ref b), .val (.int (0 : Int32)), .val (.int (0 : Int32)), .val .null, .unset] [(.ref a)])) rfl (hb hby (od dB3 5 rfl)) (n := 0) (by decide) (by decide) (by decide) (by decide)
  have ns120 := sf119 _ (CHr.safe A119 E.lt hEx)
  refine own_on st119 ?_
  show own_Fin p e below _ (T119.setTop (mkF m 11 #[.val (.ref a), .val (.ref b), .val (.int (0 : Int32)), .val (.int (0 : Int32)), .val .null, .unset] [(.ref a119), (.ref a)]))
  refine o_gf X119 H hZ119 hown119 (ow hw 24 rfl) Via.refl e119 Va119 (od dB3 6 rfl) fun T121 X121 e121 => ?_
  obtain ⟨T122, h122, X122, e122, W122, st122⟩ := putF X121 hx hZ119 hown119 (host := "") (Or.inl (ow hw 24 rfl)) Via.refl e121 (V0.ext E119) (E.ext E119) (Or.inr ⟨(ow hw 20 rfl), rfl, hnm⟩) (ow hw 5 rfl) (ty := (.array .byte)) (by decide) rfl rfl (g := (mkF m 14 #[.val (.ref a), .val (.ref b), .val (.int (0 : Int32)), .val (.int (0 : Int32)), .val .null, .unset] [(.ref c119), (.ref a)])) rfl rfl (hb hby (od dB3 7 rfl))
  have N122 := Fr.snoc X122 N0 ga
  have y123 := ((C0.ext E119).other W122 (Or.inr (slot_ne (Or.inr (ow hw 21 rfl)) (Or.inr (ow hw 20 rfl)) (by decide) (t := .byte) (t' := (.array .byte)) (by decide) (by decide))))
  refine own_on st122 ?_
  show own_Fin p e below _ (T122.setTop (mkF m 17 #[.val (.ref a), .val (.ref b), .val (.int (0 : Int32)), .val (.int (0 : Int32)), .val .null, .unset] []))
  refine o_aldN X122 H (od dB3 8 rfl) rfl rfl ?_
  obtain ⟨a124, T124, h124, k124, c124, kc124, X124, e124, E124, hS124, hk124, hZ124, hown124, Ea124, Ca124, Va124, Aa124, la124, lc124, A124, Lt124, sf124, st124⟩ := ldcCH X122 hx hZ119 hown119 (ow hw 18 rfl) wS e122 hS119 (Nat.le_trans hk119 (Keep.of_wr W122).1) hEL (by decide) (CHv.wr W122 (CHr.safe A119 E.lt hEx) (And.left A119)) (vs := []) (z := (0 : Int32)) ⟨by decide, rfl⟩ (by decide) rfl (g := (mkF m 18 #[.val (.ref a), .val (.ref b), .val (.int (0 : Int32)), .val (.int (0 : Int32)), .val .null, .unset] [(.ref a)])) rfl (hb hby (od dB3 9 rfl)) (n := 0) (by decide) (by decide) (by decide) (by decide)
  have y125 := (CHr.safe A124 ((E.ext E119).wr W122).lt (Safe.wr W122 (CHr.safe A119 E.lt hEx) (And.left A119) (CHr.safe A119 E.lt hEx)))
  have y126 := (CHr.trans (CHr.trans (CHr.trans (CHr.refl CH0) A119) (CHr.wr W122 (CHr.safe A119 E.lt hEx) (And.left A119))) A124)
  have ns127 := sf124 _ y125
  refine own_on st124 ?_
  show own_Fin p e below _ (T124.setTop (mkF m 20 #[.val (.ref a), .val (.ref b), .val (.int (0 : Int32)), .val (.int (0 : Int32)), .val .null, .unset] [(.ref a124), (.ref a)]))
  refine o_gf X124 H hZ124 hown124 (ow hw 25 rfl) Via.refl e124 Ca124 (od dB3 10 rfl) fun T128 X128 e128 => ?_
  obtain ⟨T129, h129, X129, e129, W129, st129⟩ := putFN X128 hx hZ124 hown124 (ow hw 25 rfl) Via.refl e128 (y123.ext E124) (((E.ext E119).wr W122).ext E124) (Or.inr ⟨(ow hw 21 rfl), rfl, hnm⟩) (ow hw 5 rfl) (ty := .byte) (v' := (.int (0 : Int32))) (by decide) rfl (by decide) (g := (mkF m 23 #[.val (.ref a), .val (.ref b), .val (.int (0 : Int32)), .val (.int (0 : Int32)), .val .null, .unset] [(.int (0 : Int32)), (.ref a)])) rfl rfl (hb hby (od dB3 11 rfl))
  have N129 := Fr.snoc X129 N122 ga
  have y130 := ((((V0.ext E119).same W122).ext E124).other W129 (Or.inr (slot_ne (Or.inr (ow hw 20 rfl)) (Or.inr (ow hw 21 rfl)) (by decide) (t := (.array .byte)) (t' := .byte) (by decide) (by decide))))
  have y131 := (((((Keep.refl h0 [a]).ext E119).wr W122 (Or.inl (List.mem_of_getElem? (i := 0) rfl))).ext E124).wr W129 (Or.inl (List.mem_of_getElem? (i := 0) rfl)))
  have y132 := (Nat.le_trans (Nat.le_trans (Nat.le_trans (Nat.le_trans Z0 E119.1) (Keep.of_wr W122).1) E124.1) (Keep.of_wr W129).1)
  refine own_on st129 ?_
  show own_Fin p e below _ (T129.setTop (mkF m 26 #[.val (.ref a), .val (.ref b), .val (.int (0 : Int32)), .val (.int (0 : Int32)), .val .null, .unset] []))
  exact own_retVW X129 (Z := Z) (EL := own_EL) (a0 := a0) hx hlk hret (hb hby (od dB3 12 rfl)) hS124 (by rw [e129]; exact (Nat.le_trans hk124 (Keep.of_wr W129).1)) hZ124 hEL (by rw [hh, e129]; exact (CHr.trans y126 (CHr.wr W129 y125 (And.left A124)))) (by show QE4 Z a b h0 n0 _ T129.heap _; rw [e129]; exact ⟨rfl, N129, y131, c119, kc119, ((((E.ext E119).wr W122).ext E124).wr W129), ((y123.ext E124).same W129), y130, (((Aa119.other W122 (Ne.symm ns120.2)).ext E124).other W129 (Ne.symm ns120.2))⟩) (by decide) (by decide)
theorem dB2 : oL jdk_42_method_3_code [(0, .aload_n 0, 1), (1, .aload_n 1, 1), (2, .iconst 0, 1), (3, .aload_n 1, 1), (4, .arraylength, 1), (5, .aconst_null, 1), (6, .invokespecial 27, 3), (9, .return_, 1)] := by unfold oL; decide +kernel
theorem pd_21 : parseMethodDescriptor "([CIILjava/lang/Void;)V" = some ⟨[(.array .char), .int, .int, (.object "java/lang/Void")], none⟩ := by decide +kernel
theorem ef_rmE1 (m : MethodId) (x0 : Addr) (x1 : Addr) : entryFrame m #[(.ref x0), (.ref x1)] 2 = mkF m 0 #[.val (.ref x0), .val (.ref x1)] [] := by first | (simp [entryFrame, mkF, argsToLocals, Value.category]; done) | rfl
def QE1 (Z : State) (a : Addr) (b : Addr) (kc : ClassId) (h0 : Heap) (n0 : Nat) (v : Option Value) (h : Heap) (L : List Loc) : Prop := v = none ∧ Fr n0 L ∧ Keep h0 h [a] ∧ ∃ (t : Addr) (kb : ClassId), Exa Z h a "java/lang/String" ∧ Fld Z h a "java/lang/String" "coder" "B" (.int 0) ∧ Fld Z h a "java/lang/String" "value" "[B" (.ref t) ∧ Arv Z h t kb .byte (0 : Int32) [] (.int 0)
set_option maxRecDepth 65536 in
set_option maxHeartbeats 40000000 in
theorem rmE1 (l : Launch) (Z : State) (a0 : Array Value) (hw : ∀ d ∈ tables_1, d.before a0 Z = true) (ws : List Jvm.Cond) (a : Addr) (b : Addr) (kc : ClassId) (h0 : Heap) (n0 : Nat) (Z0 : n0 ≤ h0.size) (hEL : EW Z a0 own_EL) (E : Exa Z h0 a "java/lang/String") (V0 : Fld Z h0 a "java/lang/String" "value" "[B" .null) (C0 : Fld Z h0 a "java/lang/String" "coder" "B" (.int (0 : Int32))) (ga : n0 ≤ a) (Ab : Arv Z h0 b kc .char (0 : Int32) [] (.int (0 : Int32))) :
    MetFree l (⟨"java/lang/String", "<init>", "([C)V"⟩ : MethodName) (head1 (Jvm.Cond.code (⟨"java/lang/String", "<init>", "([C)V"⟩ : MethodName) jdk_42_method_3_code 2 none :: ws) ({ frames := 2, cells := 4, slots := 8, locals := 30 } : Room)) (fun as_ U => as_ = #[(.ref a), (.ref b)] ∧ Z.Warmed39 U.vm ∧ U.heap = h0 ∧ CHv Z own_EL U.vm h0 ∧ Safe Z own_EL U.vm h0 a) (fun _ _ _ _ _ => True) (fun _ U out_ U' => ∃ v L, out_ = .returned v ∧ QE1 Z a b kc h0 n0 v U'.heap L ∧ CHr Z own_EL U.vm U.heap U'.vm U'.heap ∧ ReturnedEndW U out_ U' L ({ frames := 2, cells := 4, slots := 8, locals := 30 } : Room).cells ({ frames := 2, cells := 4, slots := 8, locals := 30 } : Room).slots) := by
  refine MetFree.of_bodySF (plainFor_of_name pn_2) hisR ?_
  intro p e s m args below meth cd s₁ Bd hml0 hP hK
  obtain ⟨rfl, hZ, hh, CH0, hEx⟩ := hP
  have hx := Bd.exec
  have hby := Bd.bytes
  have hml : cd.maxLocals = 2 := hml0
  have hlk : meth.locks = false := BodyLoose.notSynchronized Bd
  have hown : s.vm.findClass "java/lang/String" = some m.cls := findClass_of_methodNamed Bd.named
  have hnm := (name_of_methodNamed Bd.named Bd.method).1
  have hret := Bd.returns
  have H := And.intro hx hby
  have X0 : Stand p l e ({ frames := 2, cells := 4, slots := 8, locals := 30 } : Room) (s.setVm s.vm) m #[(.ref a), (.ref b)] below meth cd s₁ [] 0 0 := Stand.of_body Bd
  have e0 : s₁.heap = h0 := by rw [← hh, Bd.state]; rfl
  have N0 := Fr.nil n0
  have hS0 : s.Since s.vm 0 := (State.WarmedH.refl s).since 0
  have nba : b ≠ a := Ne.symm (Exa.neArv E Ab (ow hw 5 rfl))
  show own_Fin p e below (own_AnsW s Z own_EL (QE1 Z a b kc h0 n0) ({ frames := 2, cells := 4, slots := 8, locals := 30 } : Room).cells ({ frames := 2, cells := 4, slots := 8, locals := 30 } : Room).slots) (s₁.setTop (entryFrame m #[(.ref a), (.ref b)] 2))
  refine own_cast (ef_rmE1 m a b) ?_
  show own_Fin p e below _ (s₁.setTop (mkF m 0 #[.val (.ref a), .val (.ref b)] []))
  refine o_aldN X0 H (od dB2 0 rfl) rfl rfl ?_
  refine o_aldN X0 H (od dB2 1 rfl) rfl rfl ?_
  refine o_ic X0 H (od dB2 2 rfl) (v := 0) rfl ?_
  refine o_aldN X0 H (od dB2 3 rfl) rfl rfl ?_
  have cp133 := Ab
  obtain ⟨cl133, Ar133, q133, S133, G133, H133, F133⟩ := cp133
  refine own_on (fun tq => X0.arraylength hx (by rw [e0]; exact Ar133.1) (State.isArrayOf_alike hZ.alike Ar133.2.1) (g := (mkF m 4 #[.val (.ref a), .val (.ref b)] [(.ref b), (.int (0 : Int32)), (.ref b), (.ref a)])) rfl rfl (hb hby (od dB2 4 rfl)) tq) ?_
  rw [len_of S133 G133]
  show own_Fin p e below _ (s₁.setTop (mkF m 5 #[.val (.ref a), .val (.ref b)] [(.int (0 : Int32)), (.int (0 : Int32)), (.ref b), (.ref a)]))
  refine o_nul X0 H (od dB2 5 rfl) ?_
  obtain ⟨_, _, ⟨T134, L134, k134, n134⟩, -, X134', S134', gr134, ⟨Lc134, hQ134, l134, y134, z134, A134⟩, st134⟩ := X0.specialBackS hx (y := (⟨"java/lang/String", "<init>", "([CIILjava/lang/Void;)V"⟩ : MethodName)) rfl hown (mvT hZ (ow hw 11 rfl)) (mvT hZ (ow hw 12 rfl)) (mvT hZ (ow hw 14 rfl)) (by decide) (own_backX (Ex := fun vm => Safe Z own_EL vm h0 a) (s := s) (W := 0) (rmE4 l Z a0 hw [] a b h0 n0 (by exact Z0) hEL E V0 C0 ga) hZ (ow hw 14 rfl) (ow hw 6 rfl) (by decide) (by decide) hEL CH0 (fun _ A => CHr.safe A E.lt hEx)) (g := (mkF m 6 #[.val (.ref a), .val (.ref b)] [.null, (.int (0 : Int32)), (.int (0 : Int32)), (.ref b), (.ref a)])) rfl hml.symm (Steps.refl _) (a := a) (argsL := [(.ref b), (.int (0 : Int32)), (.int (0 : Int32)), .null]) (rest := []) (lenOf pd_21 rfl) rfl (o_mr rfl) (hb hby (od dB2 6 rfl)) (fun _ _ => ⟨rfl, e0, (by decide : 0 + 4 ≤ _), (by decide : 0 + 8 ≤ _)⟩)
  dsimp only [Pt.U, Pt.locs, Pt.cells, Pt.slots] at X134' S134' gr134 l134 y134 z134 st134 hQ134 A134
  replace l134 := l134.symm; replace y134 := y134.symm; replace z134 := z134.symm; subst l134 y134 z134
  obtain ⟨X134, hS134, hZ134, hown134⟩ := rebS hS0 (by first | exact (Nat.zero_le _) | (rw [e0]; exact (Nat.zero_le _))) X134' S134' gr134 hZ hown
  obtain ⟨rfl, N134q, K134, t134, kt134, Eq134, Cq134, Vq134, Aq134⟩ := hQ134
  have N134 := Fr.app N0 N134q
  refine own_via st134 ?_
  show own_Fin p e below _ (T134.setTop (mkF m 9 #[.val (.ref a), .val (.ref b)] []))
  exact own_retVW X134 (Z := Z) (EL := own_EL) (a0 := a0) hx hlk hret (hb hby (od dB2 7 rfl)) hS134 (Nat.le_refl (Array.size T134.heap)) hZ134 hEL (by rw [hh]; exact (CHr.trans (CHr.refl CH0) A134)) (by show QE1 Z a b kc h0 n0 _ T134.heap _; exact ⟨rfl, N134, ((Keep.refl h0 [a]).trans K134 (allS (Or.inl (List.mem_of_getElem? (i := 0) rfl)) all0)), t134, kt134, Eq134, Cq134, Vq134, Aq134⟩) (by decide) (by decide)
theorem pn_6 : plainName "com/example/covenantry/covenantry/input/LedgerIsUnderPinLaw" = true := by first | (simp [plainName, overriddenIn]; done) | decide +kernel
theorem dB1 : oL method_3_code [(0, .iload 4, 2), (2, .ifCond .ne 14, 3), (5, .new 19, 3), (8, .dup, 1), (9, .iconst 0, 1), (10, .newarray .char, 2), (12, .invokespecial 21, 3), (15, .areturn, 1), (16, .iload 4, 2), (18, .iconst 1, 1), (19, .if_icmp .ne 18, 3), (22, .new 19, 3), (25, .dup, 1), (26, .iconst 1, 1), (27, .newarray .char, 2), (29, .dup, 1), (30, .iconst 0, 1), (31, .iload_n 0, 1), (32, .castore, 1), (33, .invokespecial 21, 3), (36, .areturn, 1), (37, .iload 4, 2), (39, .iconst 2, 1), (40, .if_icmp .ne 22, 3), (43, .new 19, 3), (46, .dup, 1), (47, .iconst 2, 1), (48, .newarray .char, 2), (50, .dup, 1), (51, .iconst 0, 1), (52, .iload_n 0, 1), (53, .castore, 1), (54, .dup, 1), (55, .iconst 1, 1), (56, .iload_n 1, 1), (57, .castore, 1), (58, .invokespecial 21, 3), (61, .areturn, 1), (62, .iload 4, 2), (64, .iconst 3, 1), (65, .if_icmp .ne 26, 3), (68, .new 19, 3), (71, .dup, 1), (72, .iconst 3, 1), (73, .newarray .char, 2), (75, .dup, 1), (76, .iconst 0, 1), (77, .iload_n 0, 1), (78, .castore, 1), (79, .dup, 1), (80, .iconst 1, 1), (81, .iload_n 1, 1), (82, .castore, 1), (83, .dup, 1), (84, .iconst 2, 1), (85, .iload_n 2, 1), (86, .castore, 1), (87, .invokespecial 21, 3), (90, .areturn, 1), (91, .new 19, 3), (94, .dup, 1), (95, .iconst 4, 1), (96, .newarray .char, 2), (98, .dup, 1), (99, .iconst 0, 1), (100, .iload_n 0, 1), (101, .castore, 1), (102, .dup, 1), (103, .iconst 1, 1), (104, .iload_n 1, 1), (105, .castore, 1), (106, .dup, 1), (107, .iconst 2, 1), (108, .iload_n 2, 1), (109, .castore, 1), (110, .dup, 1), (111, .iconst 3, 1), (112, .iload_n 3, 1), (113, .castore, 1), (114, .invokespecial 21, 3), (117, .areturn, 1)] := by unfold oL; decide +kernel
theorem pd_22 : parseMethodDescriptor "([C)V" = some ⟨[(.array .char)], none⟩ := by decide +kernel
theorem ef_rmMk0 (m : MethodId) (x0 : Int32) (x1 : Int32) (x2 : Int32) (x3 : Int32) (x4 : Int32) : entryFrame m #[(.int x0), (.int x1), (.int x2), (.int x3), (.int x4)] 5 = mkF m 0 #[.val (.int x0), .val (.int x1), .val (.int x2), .val (.int x3), .val (.int x4)] [] := by first | (simp [entryFrame, mkF, argsToLocals, Value.category]; done) | rfl
def QMk0 (Z : State) (q0 : Int32) (q1 : Int32) (q2 : Int32) (q3 : Int32) (z : Int32) (h0 : Heap) (n0 : Nat) (v : Option Value) (h : Heap) (L : List Loc) : Prop := ∃ (x t : Addr) (kb : ClassId), v = some (.ref x) ∧ Fr n0 L ∧ Keep h0 h [] ∧ Exa Z h x "java/lang/String" ∧ Fld Z h x "java/lang/String" "coder" "B" (.int 0) ∧ Fld Z h x "java/lang/String" "value" "[B" (.ref t) ∧ Arv Z h t kb .byte (0 : Int32) [] (.int 0)
set_option maxRecDepth 65536 in
set_option maxHeartbeats 40000000 in
theorem rmMk0 (l : Launch) (Z : State) (a0 : Array Value) (hw : ∀ d ∈ tables_1, d.before a0 Z = true) (ws : List Jvm.Cond) (q0 : Int32) (q1 : Int32) (q2 : Int32) (q3 : Int32) (z : Int32) (h0 : Heap) (n0 : Nat) (Z0 : n0 ≤ h0.size) (hEL : EW Z a0 own_EL) (rq0 : ¬ q0 < 0 ∧ ¬ (255 : Int32) < q0) (rq1 : ¬ q1 < 0 ∧ ¬ (255 : Int32) < q1) (rq2 : ¬ q2 < 0 ∧ ¬ (255 : Int32) < q2) (rq3 : ¬ q3 < 0 ∧ ¬ (255 : Int32) < q3) (hz : ¬ z = (0 : Int32)) (O : Old Z n0 h0) (SC : Sta Z Z.heap "java/lang/String" "COMPACT_STRINGS" "Z" (.int z)) :
    MetFree l (⟨"com/example/covenantry/covenantry/input/LedgerIsUnderPinLaw", "mk", "(CCCCI)Ljava/lang/String;"⟩ : MethodName) (head1 (Jvm.Cond.code (⟨"com/example/covenantry/covenantry/input/LedgerIsUnderPinLaw", "mk", "(CCCCI)Ljava/lang/String;"⟩ : MethodName) method_3_code 5 (some (.object "java/lang/String")) :: ws) ({ frames := 3, cells := 6, slots := 12, locals := 44 } : Room)) (fun as_ U => as_ = #[(.int q0), (.int q1), (.int q2), (.int q3), (.int (0 : Int32))] ∧ Z.Warmed39 U.vm ∧ U.heap = h0 ∧ CHv Z own_EL U.vm h0) (fun _ _ _ _ _ => True) (fun _ U out_ U' => ∃ v L, out_ = .returned v ∧ QMk0 Z q0 q1 q2 q3 z h0 n0 v U'.heap L ∧ CHr Z own_EL U.vm U.heap U'.vm U'.heap ∧ ReturnedEndW U out_ U' L ({ frames := 3, cells := 6, slots := 12, locals := 44 } : Room).cells ({ frames := 3, cells := 6, slots := 12, locals := 44 } : Room).slots) := by
  refine MetFree.of_bodySF (plainFor_of_name pn_6) hisR ?_
  intro p e s m args below meth cd s₁ Bd hml0 hP hK
  obtain ⟨rfl, hZ, hh, CH0⟩ := hP
  have hx := Bd.exec
  have hby := Bd.bytes
  have hml : cd.maxLocals = 5 := hml0
  have hlk : meth.locks = false := BodyLoose.notSynchronized Bd
  have hown : s.vm.findClass "com/example/covenantry/covenantry/input/LedgerIsUnderPinLaw" = some m.cls := findClass_of_methodNamed Bd.named
  have hnm := (name_of_methodNamed Bd.named Bd.method).1
  have hret := Bd.returns
  have H := And.intro hx hby
  have X0 : Stand p l e ({ frames := 3, cells := 6, slots := 12, locals := 44 } : Room) (s.setVm s.vm) m #[(.int q0), (.int q1), (.int q2), (.int q3), (.int (0 : Int32))] below meth cd s₁ [] 0 0 := Stand.of_body Bd
  have e0 : s₁.heap = h0 := by rw [← hh, Bd.state]; rfl
  have N0 := Fr.nil n0
  have hS0 : s.Since s.vm 0 := (State.WarmedH.refl s).since 0
  show own_Fin p e below (own_AnsW s Z own_EL (QMk0 Z q0 q1 q2 q3 z h0 n0) ({ frames := 3, cells := 6, slots := 12, locals := 44 } : Room).cells ({ frames := 3, cells := 6, slots := 12, locals := 44 } : Room).slots) (s₁.setTop (entryFrame m #[(.int q0), (.int q1), (.int q2), (.int q3), (.int (0 : Int32))] 5))
  refine own_cast (ef_rmMk0 m q0 q1 q2 q3 (0 : Int32)) ?_
  show own_Fin p e below _ (s₁.setTop (mkF m 0 #[.val (.int q0), .val (.int q1), .val (.int q2), .val (.int q3), .val (.int (0 : Int32))] []))
  refine o_ild X0 H (od dB1 0 rfl) rfl ?_
  refine o_ifN X0 H (od dB1 1 rfl) ((if0 _ _).trans (teq (by decide : (0 : Int32) = (0 : Int32))).2) ?_
  obtain ⟨T135, h135, X135, e135, E135, A135, D135, -, st135⟩ := newO X0 hx hZ hown (ow hw 4 rfl) (ow hw 5 rfl) (ow hw 6 rfl) e0 (g := (mkF m 5 #[.val (.int q0), .val (.int q1), .val (.int q2), .val (.int q3), .val (.int (0 : Int32))] [])) rfl (hb hby (od dB1 2 rfl)) (by decide) (by decide)
  obtain ⟨b135, g135⟩ : ∃ z, z = h0.size := ⟨_, rfl⟩
  rw [← g135] at A135 D135 st135
  have gn135 : n0 ≤ b135 := Nat.le_trans Z0 (Nat.le_of_eq g135.symm)
  have gk135 : h0.size ≤ b135 := Nat.le_trans (Keep.refl h0 []).1 (Nat.le_of_eq g135.symm)
  have F135_value : Fld Z h135 b135 "java/lang/String" "value" "[B" .null := D135 (Or.inr (ow hw 20 rfl)) (ty := (.array .byte)) (by decide)
  have F135_coder : Fld Z h135 b135 "java/lang/String" "coder" "B" (.int (0 : Int32)) := D135 (Or.inr (ow hw 21 rfl)) (ty := .byte) (by decide)
  refine own_on st135 ?_
  show own_Fin p e below _ (T135.setTop (mkF m 8 #[.val (.int q0), .val (.int q1), .val (.int q2), .val (.int q3), .val (.int (0 : Int32))] [(.ref b135)]))
  refine o_dup X135 H (od dB1 3 rfl) rfl ?_
  refine o_ic X135 H (od dB1 4 rfl) (v := 0) rfl ?_
  obtain ⟨T136, h136, k136, X136, e136, E136, A136, st136⟩ := newP X135 hx hZ (ow hw 7 rfl) e135 (g := (mkF m 10 #[.val (.int q0), .val (.int q1), .val (.int q2), .val (.int q3), .val (.int (0 : Int32))] [(.int (0 : Int32)), (.ref b135), (.ref b135)])) rfl (hb hby (od dB1 5 rfl)) rfl (by decide) (cap := 0) (by decide) (by decide) (by decide) (by decide)
  obtain ⟨b136, g136⟩ : ∃ z, z = h135.size := ⟨_, rfl⟩
  rw [← g136] at A136 st136
  have ne136_b135 : b135 ≠ b136 := own_ne_of (Z := Z) A135.lt g136
  have gn136 : n0 ≤ b136 := Nat.le_trans (Nat.le_trans Z0 E135.1) (Nat.le_of_eq g136.symm)
  have gk136 : h0.size ≤ b136 := Nat.le_trans ((Keep.refl h0 []).ext E135).1 (Nat.le_of_eq g136.symm)
  have V136 : Arv Z h136 b136 k136 .char (0 : Int32) [] (.int (0 : Int32)) := Arv.new A136 (by decide)
  refine own_on st136 ?_
  show own_Fin p e below _ (T136.setTop (mkF m 12 #[.val (.int q0), .val (.int q1), .val (.int q2), .val (.int q3), .val (.int (0 : Int32))] [(.ref b136), (.ref b135), (.ref b135)]))
  obtain ⟨_, _, ⟨T137, L137, k137, n137⟩, -, X137', S137', gr137, ⟨Lc137, hQ137, l137, y137, z137, A137⟩, st137⟩ := X136.specialBackS hx (y := (⟨"java/lang/String", "<init>", "([C)V"⟩ : MethodName)) rfl hown (mvT hZ (ow hw 8 rfl)) (mvT hZ (ow hw 9 rfl)) (mvT hZ (ow hw 10 rfl)) (by decide) (own_backX (Ex := fun vm => Safe Z own_EL vm h136 b135) (s := s) (W := 1) (rmE1 l Z a0 hw [] b135 b136 k136 h136 n0 (by exact (Nat.le_trans (Nat.le_trans Z0 E135.1) E136.1)) hEL (A135.ext E136) (F135_value.ext E136) (F135_coder.ext E136) gn135 V136) hZ (ow hw 10 rfl) (ow hw 6 rfl) (by decide) (by decide) hEL (CHv.ext E136 (CHv.ext E135 CH0)) (fun _ A => CHr.safe A (A135.ext E136).lt (Safe.ext E136 (CHv.ext E135 CH0) (Safe.ext E135 CH0 (Safe.new (Nat.le_of_eq g135.symm)))))) (g := (mkF m 12 #[.val (.int q0), .val (.int q1), .val (.int q2), .val (.int q3), .val (.int (0 : Int32))] [(.ref b136), (.ref b135), (.ref b135)])) rfl hml.symm (Steps.refl _) (a := b135) (argsL := [(.ref b136)]) (rest := [(.ref b135)]) (lenOf pd_22 rfl) rfl (o_mr rfl) (hb hby (od dB1 6 rfl)) (fun _ _ => ⟨rfl, e136, (by decide : 2 + 4 ≤ _), (by decide : 4 + 8 ≤ _)⟩)
  dsimp only [Pt.U, Pt.locs, Pt.cells, Pt.slots] at X137' S137' gr137 l137 y137 z137 st137 hQ137 A137
  replace l137 := l137.symm; replace y137 := y137.symm; replace z137 := z137.symm; subst l137 y137 z137
  obtain ⟨X137, hS137, hZ137, hown137⟩ := rebS hS0 (by first | exact (Nat.le_trans (Nat.le_trans (Nat.zero_le _) E135.1) E136.1) | (rw [e136]; exact (Nat.le_trans (Nat.le_trans (Nat.zero_le _) E135.1) E136.1))) X137' S137' gr137 hZ hown
  obtain ⟨rfl, N137q, K137, t137, kt137, Eq137, Cq137, Vq137, Aq137⟩ := hQ137
  have N137 := Fr.app N0 N137q
  have y138 := (CHr.safe A137 (F135_coder.ext E136).lt (Safe.ext E136 (CHv.ext E135 CH0) (Safe.ext E135 CH0 (Safe.new (Nat.le_of_eq g135.symm)))))
  refine own_via st137 ?_
  have rg139 : ∀ c ∈ ([] : List Int32), ¬ c < 0 ∧ ¬ (255 : Int32) < c := fun _ q => nomatch q
  show own_Fin p e below _ (T137.setTop (mkF m 15 #[.val (.int q0), .val (.int q1), .val (.int q2), .val (.int q3), .val (.int (0 : Int32))] [(.ref b135)]))
  exact own_retW (t := (.object "java/lang/String")) X137 (Z := Z) (EL := own_EL) (a0 := a0) hx hlk hret rfl (Or.inr (Or.inr (Or.inr (Or.inr ⟨rfl, rfl, rfl⟩)))) (hb hby (od dB1 7 rfl)) hS137 (Nat.le_refl (Array.size T137.heap)) hZ137 hEL (by rw [hh]; exact (CHr.trans (CHr.trans (CHr.trans (CHr.refl CH0) (CHr.ext E135 CH0)) (CHr.ext E136 (CHv.ext E135 CH0))) A137)) (by show QMk0 Z q0 q1 q2 q3 z h0 n0 _ T137.heap _; exact ⟨b135, t137, kt137, rfl, N137, ((((Keep.refl h0 []).ext E135).ext E136).trans K137 (allS (Or.inr gk135) all0)), Eq137, Cq137, Vq137, Aq137⟩) (by decide) (by decide)
theorem ef_rmMk1 (m : MethodId) (x0 : Int32) (x1 : Int32) (x2 : Int32) (x3 : Int32) (x4 : Int32) : entryFrame m #[(.int x0), (.int x1), (.int x2), (.int x3), (.int x4)] 5 = mkF m 0 #[.val (.int x0), .val (.int x1), .val (.int x2), .val (.int x3), .val (.int x4)] [] := by first | (simp [entryFrame, mkF, argsToLocals, Value.category]; done) | rfl
def QMk1 (Z : State) (q0 : Int32) (q1 : Int32) (q2 : Int32) (q3 : Int32) (z : Int32) (h0 : Heap) (n0 : Nat) (v : Option Value) (h : Heap) (L : List Loc) : Prop := ∃ (x t : Addr) (kb : ClassId), v = some (.ref x) ∧ Fr n0 L ∧ Keep h0 h [] ∧ Exa Z h x "java/lang/String" ∧ Fld Z h x "java/lang/String" "coder" "B" (.int 0) ∧ Fld Z h x "java/lang/String" "value" "[B" (.ref t) ∧ Arv Z h t kb .byte (1 : Int32) (([q0].map StrChars.lo8).map Value.int) (.int 0)
set_option maxRecDepth 65536 in
set_option maxHeartbeats 40000000 in
theorem rmMk1 (l : Launch) (Z : State) (a0 : Array Value) (hw : ∀ d ∈ tables_1, d.before a0 Z = true) (ws : List Jvm.Cond) (q0 : Int32) (q1 : Int32) (q2 : Int32) (q3 : Int32) (z : Int32) (h0 : Heap) (n0 : Nat) (Z0 : n0 ≤ h0.size) (rq0 : ¬ q0 < 0 ∧ ¬ (255 : Int32) < q0) (rq1 : ¬ q1 < 0 ∧ ¬ (255 : Int32) < q1) (rq2 : ¬ q2 < 0 ∧ ¬ (255 : Int32) < q2) (rq3 : ¬ q3 < 0 ∧ ¬ (255 : Int32) < q3) (hz : ¬ z = (0 : Int32)) (O : Old Z n0 h0) (SC : Sta Z Z.heap "java/lang/String" "COMPACT_STRINGS" "Z" (.int z)) :
    own_M l (⟨"com/example/covenantry/covenantry/input/LedgerIsUnderPinLaw", "mk", "(CCCCI)Ljava/lang/String;"⟩ : MethodName) method_3_code 5 (some (.object "java/lang/String")) ws ({ frames := 4, cells := 3, slots := 6, locals := 66 } : Room) #[(.int q0), (.int q1), (.int q2), (.int q3), (.int (1 : Int32))] Z h0 (QMk1 Z q0 q1 q2 q3 z h0 n0) := by
  refine MetFree.of_bodySF (plainFor_of_name pn_6) hisR ?_
  intro p e s m args below meth cd s₁ Bd hml hP hK
  obtain ⟨rfl, hZ, hh⟩ := hP
  obtain ⟨X0, e0, H, hlk, hown, hret⟩ := own_start (R := ({ frames := 4, cells := 3, slots := 6, locals := 66 } : Room)) Bd hh rfl
  have hx := H.1; have hby := H.2; have N0 := Fr.nil n0
  show own_Fin p e below (own_Ans s (QMk1 Z q0 q1 q2 q3 z h0 n0) ({ frames := 4, cells := 3, slots := 6, locals := 66 } : Room).cells ({ frames := 4, cells := 3, slots := 6, locals := 66 } : Room).slots) (s₁.setTop (entryFrame m #[(.int q0), (.int q1), (.int q2), (.int q3), (.int (1 : Int32))] 5))
  refine own_cast (ef_rmMk1 m q0 q1 q2 q3 (1 : Int32)) ?_
  show own_Fin p e below _ (s₁.setTop (mkF m 0 #[.val (.int q0), .val (.int q1), .val (.int q2), .val (.int q3), .val (.int (1 : Int32))] []))
  refine o_ild X0 H (od dB1 0 rfl) rfl ?_
  refine o_ifY X0 H (od dB1 1 rfl) ((if0 _ _).trans (feq (by decide : ¬ ((1 : Int32) = (0 : Int32)))).2) (pc' := 16) (by decide) (by decide) ?_
  refine o_ild X0 H (od dB1 8 rfl) rfl ?_
  refine o_ic X0 H (od dB1 9 rfl) (v := 1) rfl ?_
  refine o_icN X0 H (od dB1 10 rfl) (teq (by decide : (1 : Int32) = (1 : Int32))).2 ?_
  obtain ⟨T140, h140, X140, e140, E140, A140, D140, -, st140⟩ := newO X0 hx hZ hown (ow hw 4 rfl) (ow hw 5 rfl) (ow hw 6 rfl) e0 (g := (mkF m 22 #[.val (.int q0), .val (.int q1), .val (.int q2), .val (.int q3), .val (.int (1 : Int32))] [])) rfl (hb hby (od dB1 11 rfl)) (by decide) (by decide)
  obtain ⟨b140, g140⟩ : ∃ z, z = h0.size := ⟨_, rfl⟩
  rw [← g140] at A140 D140 st140
  have gn140 : n0 ≤ b140 := Nat.le_trans Z0 (Nat.le_of_eq g140.symm)
  have gk140 : h0.size ≤ b140 := Nat.le_trans (Keep.refl h0 []).1 (Nat.le_of_eq g140.symm)
  have F140_value : Fld Z h140 b140 "java/lang/String" "value" "[B" .null := D140 (Or.inr (ow hw 20 rfl)) (ty := (.array .byte)) (by decide)
  have F140_coder : Fld Z h140 b140 "java/lang/String" "coder" "B" (.int (0 : Int32)) := D140 (Or.inr (ow hw 21 rfl)) (ty := .byte) (by decide)
  refine own_on st140 ?_
  show own_Fin p e below _ (T140.setTop (mkF m 25 #[.val (.int q0), .val (.int q1), .val (.int q2), .val (.int q3), .val (.int (1 : Int32))] [(.ref b140)]))
  refine o_dup X140 H (od dB1 12 rfl) rfl ?_
  refine o_ic X140 H (od dB1 13 rfl) (v := 1) rfl ?_
  obtain ⟨T141, h141, k141, X141, e141, E141, A141, st141⟩ := newP X140 hx hZ (ow hw 7 rfl) e140 (g := (mkF m 27 #[.val (.int q0), .val (.int q1), .val (.int q2), .val (.int q3), .val (.int (1 : Int32))] [(.int (1 : Int32)), (.ref b140), (.ref b140)])) rfl (hb hby (od dB1 14 rfl)) rfl (by decide) (cap := 1) (by decide) (by decide) (by decide) (by decide)
  obtain ⟨b141, g141⟩ : ∃ z, z = h140.size := ⟨_, rfl⟩
  rw [← g141] at A141 st141
  have ne141_b140 : b140 ≠ b141 := own_ne_of (Z := Z) A140.lt g141
  have gn141 : n0 ≤ b141 := Nat.le_trans (Nat.le_trans Z0 E140.1) (Nat.le_of_eq g141.symm)
  have gk141 : h0.size ≤ b141 := Nat.le_trans ((Keep.refl h0 []).ext E140).1 (Nat.le_of_eq g141.symm)
  have V141 : Arv Z h141 b141 k141 .char (1 : Int32) [(.int (0 : Int32))] (.int (0 : Int32)) := (Arv.new A141 (by decide)).pad (pad_rep [] (.int (0 : Int32)) 1)
  refine own_on st141 ?_
  show own_Fin p e below _ (T141.setTop (mkF m 29 #[.val (.int q0), .val (.int q1), .val (.int q2), .val (.int q3), .val (.int (1 : Int32))] [(.ref b141), (.ref b140), (.ref b140)]))
  refine o_dup X141 H (od dB1 15 rfl) rfl ?_
  refine o_ic X141 H (od dB1 16 rfl) (v := 0) rfl ?_
  refine o_ildN X141 H (od dB1 17 rfl) rfl ?_
  have cp142 := V141
  obtain ⟨cl142, Ar142, q142, S142, G142, H142, F142⟩ := cp142
  have hin142 : ¬ ((0 : Int32) < 0 ∨ cl142.slots.size ≤ ((0 : Int32)).toNatClampNeg) := inb_of S142 ⟨by decide, by decide⟩
  obtain ⟨T142, h142, X142, e142, W142, st142⟩ := stC X141 hx hZ e141 Ar142 (j := (0 : Int32)) hin142 (g := (mkF m 32 #[.val (.int q0), .val (.int q1), .val (.int q2), .val (.int q3), .val (.int (1 : Int32))] [(.int q0), (.int (0 : Int32)), (.ref b141), (.ref b141), (.ref b140), (.ref b140)])) rfl rfl (hb hby (od dB1 18 rfl))
  have V142 : Arv Z h142 b141 k141 .char (1 : Int32) [(.int (nar .char q0))] (.int (0 : Int32)) := Arv.set Ar142 q142 S142 G142 H142 F142 (fits_nar_char _) W142 0 rfl (Nat.le_of_ble_eq_true rfl)
  have N142 := Fr.snoc X142 N0 gn141
  refine own_on st142 ?_
  show own_Fin p e below _ (T142.setTop (mkF m 33 #[.val (.int q0), .val (.int q1), .val (.int q2), .val (.int q3), .val (.int (1 : Int32))] [(.ref b141), (.ref b140), (.ref b140)]))
  have V143 : Arv Z h142 b141 k141 .char (1 : Int32) ([q0].map Value.int) (.int (0 : Int32)) := by have q := V142; simp only [own_narc rq0] at q; exact q
  have rg144 : ∀ q_ ∈ [q0], ¬ q_ < 0 ∧ ¬ (255 : Int32) < q_ := List.forall_mem_cons.mpr ⟨rq0, fun _ q => nomatch q⟩
  obtain ⟨_, _, ⟨T143, L143, k143, n143⟩, -, X143, ⟨Lc143, hQ143, l143, y143, z143⟩, st143⟩ := X142.specialBack hx (y := (⟨"java/lang/String", "<init>", "([C)V"⟩ : MethodName)) rfl hown (mvT hZ (ow hw 8 rfl)) (mvT hZ (ow hw 9 rfl)) (mvT hZ (ow hw 10 rfl)) (by decide) (StrChars.Road.backV (W := 1) hZ (own_wV hw) (ow hw 5 rfl) (n0 := n0) (n := 1) gn140 (Nat.le_trans (Nat.le_trans (Nat.le_trans Z0 E140.1) E141.1) (Keep.of_wr W142).1) ((A140.ext E141).wr W142) ((F140_value.ext E141).other W142 (Or.inl ne141_b140)) ((F140_coder.ext E141).other W142 (Or.inl ne141_b140)) V143 (SC.ext (((O.ext E140).ext E141).wr W142 gn141).2) hz rfl rfl (by decide) (by decide) rg144 rfl (by decide) (by decide)) (g := (mkF m 33 #[.val (.int q0), .val (.int q1), .val (.int q2), .val (.int q3), .val (.int (1 : Int32))] [(.ref b141), (.ref b140), (.ref b140)])) rfl hml.symm (Steps.refl _) (a := b140) (argsL := [(.ref b141)]) (rest := [(.ref b140)]) (lenOf pd_22 rfl) rfl (o_mr rfl) (hb hby (od dB1 19 rfl)) (fun _ _ => ⟨rfl, e142, (by decide : 2 + 1 ≤ _), (by decide : 5 + 1 ≤ _)⟩)
  dsimp only [Pt.U, Pt.locs, Pt.cells, Pt.slots] at X143 l143 y143 z143 st143 hQ143
  replace l143 := l143.symm; replace y143 := y143.symm; replace z143 := z143.symm; subst l143 y143 z143
  obtain ⟨rfl, N143q, K143, Eq143, Cq143, t143, kt143, gt143, kk143, nt143, Vq143, Aq143⟩ := hQ143
  have N143 := Fr.app N142 N143q
  have Aw143 : Arv Z T143.heap t143 kt143 .byte (1 : Int32) (([q0].map StrChars.lo8).map Value.int) (.int 0) := Aq143
  refine own_via st143 ?_
  show own_Fin p e below _ (T143.setTop (mkF m 36 #[.val (.int q0), .val (.int q1), .val (.int q2), .val (.int q3), .val (.int (1 : Int32))] [(.ref b140)]))
  exact own_ret (t := (.object "java/lang/String")) X143 hx hlk hret rfl (Or.inr (Or.inr (Or.inr (Or.inr ⟨rfl, rfl, rfl⟩)))) (hb hby (od dB1 20 rfl)) (by show QMk1 Z q0 q1 q2 q3 z h0 n0 _ T143.heap _; exact ⟨b140, t143, kt143, rfl, N143, (((((Keep.refl h0 []).ext E140).ext E141).wr W142 (Or.inr gk141)).trans K143 (allS (Or.inr gk140) all0)), Eq143, Cq143, Vq143, Aw143⟩) (by decide) (by decide)
theorem ef_rmMk2 (m : MethodId) (x0 : Int32) (x1 : Int32) (x2 : Int32) (x3 : Int32) (x4 : Int32) : entryFrame m #[(.int x0), (.int x1), (.int x2), (.int x3), (.int x4)] 5 = mkF m 0 #[.val (.int x0), .val (.int x1), .val (.int x2), .val (.int x3), .val (.int x4)] [] := by first | (simp [entryFrame, mkF, argsToLocals, Value.category]; done) | rfl
def QMk2 (Z : State) (q0 : Int32) (q1 : Int32) (q2 : Int32) (q3 : Int32) (z : Int32) (h0 : Heap) (n0 : Nat) (v : Option Value) (h : Heap) (L : List Loc) : Prop := ∃ (x t : Addr) (kb : ClassId), v = some (.ref x) ∧ Fr n0 L ∧ Keep h0 h [] ∧ Exa Z h x "java/lang/String" ∧ Fld Z h x "java/lang/String" "coder" "B" (.int 0) ∧ Fld Z h x "java/lang/String" "value" "[B" (.ref t) ∧ Arv Z h t kb .byte (2 : Int32) (([q0, q1].map StrChars.lo8).map Value.int) (.int 0)
set_option maxRecDepth 65536 in
set_option maxHeartbeats 40000000 in
theorem rmMk2 (l : Launch) (Z : State) (a0 : Array Value) (hw : ∀ d ∈ tables_1, d.before a0 Z = true) (ws : List Jvm.Cond) (q0 : Int32) (q1 : Int32) (q2 : Int32) (q3 : Int32) (z : Int32) (h0 : Heap) (n0 : Nat) (Z0 : n0 ≤ h0.size) (rq0 : ¬ q0 < 0 ∧ ¬ (255 : Int32) < q0) (rq1 : ¬ q1 < 0 ∧ ¬ (255 : Int32) < q1) (rq2 : ¬ q2 < 0 ∧ ¬ (255 : Int32) < q2) (rq3 : ¬ q3 < 0 ∧ ¬ (255 : Int32) < q3) (hz : ¬ z = (0 : Int32)) (O : Old Z n0 h0) (SC : Sta Z Z.heap "java/lang/String" "COMPACT_STRINGS" "Z" (.int z)) :
    own_M l (⟨"com/example/covenantry/covenantry/input/LedgerIsUnderPinLaw", "mk", "(CCCCI)Ljava/lang/String;"⟩ : MethodName) method_3_code 5 (some (.object "java/lang/String")) ws ({ frames := 4, cells := 3, slots := 8, locals := 66 } : Room) #[(.int q0), (.int q1), (.int q2), (.int q3), (.int (2 : Int32))] Z h0 (QMk2 Z q0 q1 q2 q3 z h0 n0) := by
  refine MetFree.of_bodySF (plainFor_of_name pn_6) hisR ?_
  intro p e s m args below meth cd s₁ Bd hml hP hK
  obtain ⟨rfl, hZ, hh⟩ := hP
  obtain ⟨X0, e0, H, hlk, hown, hret⟩ := own_start (R := ({ frames := 4, cells := 3, slots := 8, locals := 66 } : Room)) Bd hh rfl
  have hx := H.1; have hby := H.2; have N0 := Fr.nil n0
  show own_Fin p e below (own_Ans s (QMk2 Z q0 q1 q2 q3 z h0 n0) ({ frames := 4, cells := 3, slots := 8, locals := 66 } : Room).cells ({ frames := 4, cells := 3, slots := 8, locals := 66 } : Room).slots) (s₁.setTop (entryFrame m #[(.int q0), (.int q1), (.int q2), (.int q3), (.int (2 : Int32))] 5))
  refine own_cast (ef_rmMk2 m q0 q1 q2 q3 (2 : Int32)) ?_
  show own_Fin p e below _ (s₁.setTop (mkF m 0 #[.val (.int q0), .val (.int q1), .val (.int q2), .val (.int q3), .val (.int (2 : Int32))] []))
  refine o_ild X0 H (od dB1 0 rfl) rfl ?_
  refine o_ifY X0 H (od dB1 1 rfl) ((if0 _ _).trans (feq (by decide : ¬ ((2 : Int32) = (0 : Int32)))).2) (pc' := 16) (by decide) (by decide) ?_
  refine o_ild X0 H (od dB1 8 rfl) rfl ?_
  refine o_ic X0 H (od dB1 9 rfl) (v := 1) rfl ?_
  refine o_icY X0 H (od dB1 10 rfl) (feq (by decide : ¬ ((2 : Int32) = (1 : Int32)))).2 (pc' := 37) (by decide) (by decide) ?_
  refine o_ild X0 H (od dB1 21 rfl) rfl ?_
  refine o_ic X0 H (od dB1 22 rfl) (v := 2) rfl ?_
  refine o_icN X0 H (od dB1 23 rfl) (teq (by decide : (2 : Int32) = (2 : Int32))).2 ?_
  obtain ⟨T145, h145, X145, e145, E145, A145, D145, -, st145⟩ := newO X0 hx hZ hown (ow hw 4 rfl) (ow hw 5 rfl) (ow hw 6 rfl) e0 (g := (mkF m 43 #[.val (.int q0), .val (.int q1), .val (.int q2), .val (.int q3), .val (.int (2 : Int32))] [])) rfl (hb hby (od dB1 24 rfl)) (by decide) (by decide)
  obtain ⟨b145, g145⟩ : ∃ z, z = h0.size := ⟨_, rfl⟩
  rw [← g145] at A145 D145 st145
  have gn145 : n0 ≤ b145 := Nat.le_trans Z0 (Nat.le_of_eq g145.symm)
  have gk145 : h0.size ≤ b145 := Nat.le_trans (Keep.refl h0 []).1 (Nat.le_of_eq g145.symm)
  have F145_value : Fld Z h145 b145 "java/lang/String" "value" "[B" .null := D145 (Or.inr (ow hw 20 rfl)) (ty := (.array .byte)) (by decide)
  have F145_coder : Fld Z h145 b145 "java/lang/String" "coder" "B" (.int (0 : Int32)) := D145 (Or.inr (ow hw 21 rfl)) (ty := .byte) (by decide)
  refine own_on st145 ?_
  show own_Fin p e below _ (T145.setTop (mkF m 46 #[.val (.int q0), .val (.int q1), .val (.int q2), .val (.int q3), .val (.int (2 : Int32))] [(.ref b145)]))
  refine o_dup X145 H (od dB1 25 rfl) rfl ?_
  refine o_ic X145 H (od dB1 26 rfl) (v := 2) rfl ?_
  obtain ⟨T146, h146, k146, X146, e146, E146, A146, st146⟩ := newP X145 hx hZ (ow hw 7 rfl) e145 (g := (mkF m 48 #[.val (.int q0), .val (.int q1), .val (.int q2), .val (.int q3), .val (.int (2 : Int32))] [(.int (2 : Int32)), (.ref b145), (.ref b145)])) rfl (hb hby (od dB1 27 rfl)) rfl (by decide) (cap := 2) (by decide) (by decide) (by decide) (by decide)
  obtain ⟨b146, g146⟩ : ∃ z, z = h145.size := ⟨_, rfl⟩
  rw [← g146] at A146 st146
  have ne146_b145 : b145 ≠ b146 := own_ne_of (Z := Z) A145.lt g146
  have gn146 : n0 ≤ b146 := Nat.le_trans (Nat.le_trans Z0 E145.1) (Nat.le_of_eq g146.symm)
  have gk146 : h0.size ≤ b146 := Nat.le_trans ((Keep.refl h0 []).ext E145).1 (Nat.le_of_eq g146.symm)
  have V146 : Arv Z h146 b146 k146 .char (2 : Int32) [(.int (0 : Int32)), (.int (0 : Int32))] (.int (0 : Int32)) := (Arv.new A146 (by decide)).pad (pad_rep [] (.int (0 : Int32)) 2)
  refine own_on st146 ?_
  show own_Fin p e below _ (T146.setTop (mkF m 50 #[.val (.int q0), .val (.int q1), .val (.int q2), .val (.int q3), .val (.int (2 : Int32))] [(.ref b146), (.ref b145), (.ref b145)]))
  refine o_dup X146 H (od dB1 28 rfl) rfl ?_
  refine o_ic X146 H (od dB1 29 rfl) (v := 0) rfl ?_
  refine o_ildN X146 H (od dB1 30 rfl) rfl ?_
  have cp147 := V146
  obtain ⟨cl147, Ar147, q147, S147, G147, H147, F147⟩ := cp147
  have hin147 : ¬ ((0 : Int32) < 0 ∨ cl147.slots.size ≤ ((0 : Int32)).toNatClampNeg) := inb_of S147 ⟨by decide, by decide⟩
  obtain ⟨T147, h147, X147, e147, W147, st147⟩ := stC X146 hx hZ e146 Ar147 (j := (0 : Int32)) hin147 (g := (mkF m 53 #[.val (.int q0), .val (.int q1), .val (.int q2), .val (.int q3), .val (.int (2 : Int32))] [(.int q0), (.int (0 : Int32)), (.ref b146), (.ref b146), (.ref b145), (.ref b145)])) rfl rfl (hb hby (od dB1 31 rfl))
  have V147 : Arv Z h147 b146 k146 .char (2 : Int32) [(.int (nar .char q0)), (.int (0 : Int32))] (.int (0 : Int32)) := Arv.set Ar147 q147 S147 G147 H147 F147 (fits_nar_char _) W147 0 rfl (Nat.le_of_ble_eq_true rfl)
  have N147 := Fr.snoc X147 N0 gn146
  refine own_on st147 ?_
  show own_Fin p e below _ (T147.setTop (mkF m 54 #[.val (.int q0), .val (.int q1), .val (.int q2), .val (.int q3), .val (.int (2 : Int32))] [(.ref b146), (.ref b145), (.ref b145)]))
  refine o_dup X147 H (od dB1 32 rfl) rfl ?_
  refine o_ic X147 H (od dB1 33 rfl) (v := 1) rfl ?_
  refine o_ildN X147 H (od dB1 34 rfl) rfl ?_
  have cp148 := V147
  obtain ⟨cl148, Ar148, q148, S148, G148, H148, F148⟩ := cp148
  have hin148 : ¬ ((1 : Int32) < 0 ∨ cl148.slots.size ≤ ((1 : Int32)).toNatClampNeg) := inb_of S148 ⟨by decide, by decide⟩
  obtain ⟨T148, h148, X148, e148, W148, st148⟩ := stC X147 hx hZ e147 Ar148 (j := (1 : Int32)) hin148 (g := (mkF m 57 #[.val (.int q0), .val (.int q1), .val (.int q2), .val (.int q3), .val (.int (2 : Int32))] [(.int q1), (.int (1 : Int32)), (.ref b146), (.ref b146), (.ref b145), (.ref b145)])) rfl rfl (hb hby (od dB1 35 rfl))
  have V148 : Arv Z h148 b146 k146 .char (2 : Int32) [(.int (nar .char q0)), (.int (nar .char q1))] (.int (0 : Int32)) := Arv.set Ar148 q148 S148 G148 H148 F148 (fits_nar_char _) W148 1 rfl (Nat.le_of_ble_eq_true rfl)
  have N148 := Fr.snoc X148 N147 gn146
  have y149 := (Nat.le_trans (Nat.le_trans (Nat.le_trans (Nat.le_trans Z0 E145.1) E146.1) (Keep.of_wr W147).1) (Keep.of_wr W148).1)
  refine own_on st148 ?_
  show own_Fin p e below _ (T148.setTop (mkF m 58 #[.val (.int q0), .val (.int q1), .val (.int q2), .val (.int q3), .val (.int (2 : Int32))] [(.ref b146), (.ref b145), (.ref b145)]))
  have V150 : Arv Z h148 b146 k146 .char (2 : Int32) ([q0, q1].map Value.int) (.int (0 : Int32)) := by have q := V148; simp only [own_narc rq0, own_narc rq1] at q; exact q
  have rg151 : ∀ q_ ∈ [q0, q1], ¬ q_ < 0 ∧ ¬ (255 : Int32) < q_ := List.forall_mem_cons.mpr ⟨rq0, List.forall_mem_cons.mpr ⟨rq1, fun _ q => nomatch q⟩⟩
  obtain ⟨_, _, ⟨T150, L150, k150, n150⟩, -, X150, ⟨Lc150, hQ150, l150, y150, z150⟩, st150⟩ := X148.specialBack hx (y := (⟨"java/lang/String", "<init>", "([C)V"⟩ : MethodName)) rfl hown (mvT hZ (ow hw 8 rfl)) (mvT hZ (ow hw 9 rfl)) (mvT hZ (ow hw 10 rfl)) (by decide) (StrChars.Road.backV (W := 1) hZ (own_wV hw) (ow hw 5 rfl) (n0 := n0) (n := 2) gn145 y149 (((A145.ext E146).wr W147).wr W148) (((F145_value.ext E146).other W147 (Or.inl ne146_b145)).other W148 (Or.inl ne146_b145)) (((F145_coder.ext E146).other W147 (Or.inl ne146_b145)).other W148 (Or.inl ne146_b145)) V150 (SC.ext ((((O.ext E145).ext E146).wr W147 gn146).wr W148 gn146).2) hz rfl rfl (by decide) (by decide) rg151 rfl (by decide) (by decide)) (g := (mkF m 58 #[.val (.int q0), .val (.int q1), .val (.int q2), .val (.int q3), .val (.int (2 : Int32))] [(.ref b146), (.ref b145), (.ref b145)])) rfl hml.symm (Steps.refl _) (a := b145) (argsL := [(.ref b146)]) (rest := [(.ref b145)]) (lenOf pd_22 rfl) rfl (o_mr rfl) (hb hby (od dB1 36 rfl)) (fun _ _ => ⟨rfl, e148, (by decide : 2 + 1 ≤ _), (by decide : 6 + 2 ≤ _)⟩)
  dsimp only [Pt.U, Pt.locs, Pt.cells, Pt.slots] at X150 l150 y150 z150 st150 hQ150
  replace l150 := l150.symm; replace y150 := y150.symm; replace z150 := z150.symm; subst l150 y150 z150
  obtain ⟨rfl, N150q, K150, Eq150, Cq150, t150, kt150, gt150, kk150, nt150, Vq150, Aq150⟩ := hQ150
  have N150 := Fr.app N148 N150q
  have y152 := ((((((Keep.refl h0 []).ext E145).ext E146).wr W147 (Or.inr gk146)).wr W148 (Or.inr gk146)).trans K150 (allS (Or.inr gk145) all0))
  have Aw150 : Arv Z T150.heap t150 kt150 .byte (2 : Int32) (([q0, q1].map StrChars.lo8).map Value.int) (.int 0) := Aq150
  refine own_via st150 ?_
  show own_Fin p e below _ (T150.setTop (mkF m 61 #[.val (.int q0), .val (.int q1), .val (.int q2), .val (.int q3), .val (.int (2 : Int32))] [(.ref b145)]))
  exact own_ret (t := (.object "java/lang/String")) X150 hx hlk hret rfl (Or.inr (Or.inr (Or.inr (Or.inr ⟨rfl, rfl, rfl⟩)))) (hb hby (od dB1 37 rfl)) (by show QMk2 Z q0 q1 q2 q3 z h0 n0 _ T150.heap _; exact ⟨b145, t150, kt150, rfl, N150, y152, Eq150, Cq150, Vq150, Aw150⟩) (by decide) (by decide)
theorem ef_rmMk3 (m : MethodId) (x0 : Int32) (x1 : Int32) (x2 : Int32) (x3 : Int32) (x4 : Int32) : entryFrame m #[(.int x0), (.int x1), (.int x2), (.int x3), (.int x4)] 5 = mkF m 0 #[.val (.int x0), .val (.int x1), .val (.int x2), .val (.int x3), .val (.int x4)] [] := by first | (simp [entryFrame, mkF, argsToLocals, Value.category]; done) | rfl
def QMk3 (Z : State) (q0 : Int32) (q1 : Int32) (q2 : Int32) (q3 : Int32) (z : Int32) (h0 : Heap) (n0 : Nat) (v : Option Value) (h : Heap) (L : List Loc) : Prop := ∃ (x t : Addr) (kb : ClassId), v = some (.ref x) ∧ Fr n0 L ∧ Keep h0 h [] ∧ Exa Z h x "java/lang/String" ∧ Fld Z h x "java/lang/String" "coder" "B" (.int 0) ∧ Fld Z h x "java/lang/String" "value" "[B" (.ref t) ∧ Arv Z h t kb .byte (3 : Int32) (([q0, q1, q2].map StrChars.lo8).map Value.int) (.int 0)
set_option maxRecDepth 65536 in
set_option maxHeartbeats 40000000 in
theorem rmMk3 (l : Launch) (Z : State) (a0 : Array Value) (hw : ∀ d ∈ tables_1, d.before a0 Z = true) (ws : List Jvm.Cond) (q0 : Int32) (q1 : Int32) (q2 : Int32) (q3 : Int32) (z : Int32) (h0 : Heap) (n0 : Nat) (Z0 : n0 ≤ h0.size) (rq0 : ¬ q0 < 0 ∧ ¬ (255 : Int32) < q0) (rq1 : ¬ q1 < 0 ∧ ¬ (255 : Int32) < q1) (rq2 : ¬ q2 < 0 ∧ ¬ (255 : Int32) < q2) (rq3 : ¬ q3 < 0 ∧ ¬ (255 : Int32) < q3) (hz : ¬ z = (0 : Int32)) (O : Old Z n0 h0) (SC : Sta Z Z.heap "java/lang/String" "COMPACT_STRINGS" "Z" (.int z)) :
    own_M l (⟨"com/example/covenantry/covenantry/input/LedgerIsUnderPinLaw", "mk", "(CCCCI)Ljava/lang/String;"⟩ : MethodName) method_3_code 5 (some (.object "java/lang/String")) ws ({ frames := 4, cells := 3, slots := 10, locals := 66 } : Room) #[(.int q0), (.int q1), (.int q2), (.int q3), (.int (3 : Int32))] Z h0 (QMk3 Z q0 q1 q2 q3 z h0 n0) := by
  refine MetFree.of_bodySF (plainFor_of_name pn_6) hisR ?_
  intro p e s m args below meth cd s₁ Bd hml hP hK
  obtain ⟨rfl, hZ, hh⟩ := hP
  obtain ⟨X0, e0, H, hlk, hown, hret⟩ := own_start (R := ({ frames := 4, cells := 3, slots := 10, locals := 66 } : Room)) Bd hh rfl
  have hx := H.1; have hby := H.2; have N0 := Fr.nil n0
  show own_Fin p e below (own_Ans s (QMk3 Z q0 q1 q2 q3 z h0 n0) ({ frames := 4, cells := 3, slots := 10, locals := 66 } : Room).cells ({ frames := 4, cells := 3, slots := 10, locals := 66 } : Room).slots) (s₁.setTop (entryFrame m #[(.int q0), (.int q1), (.int q2), (.int q3), (.int (3 : Int32))] 5))
  refine own_cast (ef_rmMk3 m q0 q1 q2 q3 (3 : Int32)) ?_
  show own_Fin p e below _ (s₁.setTop (mkF m 0 #[.val (.int q0), .val (.int q1), .val (.int q2), .val (.int q3), .val (.int (3 : Int32))] []))
  refine o_ild X0 H (od dB1 0 rfl) rfl ?_
  refine o_ifY X0 H (od dB1 1 rfl) ((if0 _ _).trans (feq (by decide : ¬ ((3 : Int32) = (0 : Int32)))).2) (pc' := 16) (by decide) (by decide) ?_
  refine o_ild X0 H (od dB1 8 rfl) rfl ?_
  refine o_ic X0 H (od dB1 9 rfl) (v := 1) rfl ?_
  refine o_icY X0 H (od dB1 10 rfl) (feq (by decide : ¬ ((3 : Int32) = (1 : Int32)))).2 (pc' := 37) (by decide) (by decide) ?_
  refine o_ild X0 H (od dB1 21 rfl) rfl ?_
  refine o_ic X0 H (od dB1 22 rfl) (v := 2) rfl ?_
  refine o_icY X0 H (od dB1 23 rfl) (feq (by decide : ¬ ((3 : Int32) = (2 : Int32)))).2 (pc' := 62) (by decide) (by decide) ?_
  refine o_ild X0 H (od dB1 38 rfl) rfl ?_
  refine o_ic X0 H (od dB1 39 rfl) (v := 3) rfl ?_
  refine o_icN X0 H (od dB1 40 rfl) (teq (by decide : (3 : Int32) = (3 : Int32))).2 ?_
  obtain ⟨T153, h153, X153, e153, E153, A153, D153, -, st153⟩ := newO X0 hx hZ hown (ow hw 4 rfl) (ow hw 5 rfl) (ow hw 6 rfl) e0 (g := (mkF m 68 #[.val (.int q0), .val (.int q1), .val (.int q2), .val (.int q3), .val (.int (3 : Int32))] [])) rfl (hb hby (od dB1 41 rfl)) (by decide) (by decide)
  obtain ⟨b153, g153⟩ : ∃ z, z = h0.size := ⟨_, rfl⟩
  rw [← g153] at A153 D153 st153
  have gn153 : n0 ≤ b153 := Nat.le_trans Z0 (Nat.le_of_eq g153.symm)
  have gk153 : h0.size ≤ b153 := Nat.le_trans (Keep.refl h0 []).1 (Nat.le_of_eq g153.symm)
  have F153_value : Fld Z h153 b153 "java/lang/String" "value" "[B" .null := D153 (Or.inr (ow hw 20 rfl)) (ty := (.array .byte)) (by decide)
  have F153_coder : Fld Z h153 b153 "java/lang/String" "coder" "B" (.int (0 : Int32)) := D153 (Or.inr (ow hw 21 rfl)) (ty := .byte) (by decide)
  refine own_on st153 ?_
  show own_Fin p e below _ (T153.setTop (mkF m 71 #[.val (.int q0), .val (.int q1), .val (.int q2), .val (.int q3), .val (.int (3 : Int32))] [(.ref b153)]))
  refine o_dup X153 H (od dB1 42 rfl) rfl ?_
  refine o_ic X153 H (od dB1 43 rfl) (v := 3) rfl ?_
  obtain ⟨T154, h154, k154, X154, e154, E154, A154, st154⟩ := newP X153 hx hZ (ow hw 7 rfl) e153 (g := (mkF m 73 #[.val (.int q0), .val (.int q1), .val (.int q2), .val (.int q3), .val (.int (3 : Int32))] [(.int (3 : Int32)), (.ref b153), (.ref b153)])) rfl (hb hby (od dB1 44 rfl)) rfl (by decide) (cap := 3) (by decide) (by decide) (by decide) (by decide)
  obtain ⟨b154, g154⟩ : ∃ z, z = h153.size := ⟨_, rfl⟩
  rw [← g154] at A154 st154
  have ne154_b153 : b153 ≠ b154 := own_ne_of (Z := Z) A153.lt g154
  have gn154 : n0 ≤ b154 := Nat.le_trans (Nat.le_trans Z0 E153.1) (Nat.le_of_eq g154.symm)
  have gk154 : h0.size ≤ b154 := Nat.le_trans ((Keep.refl h0 []).ext E153).1 (Nat.le_of_eq g154.symm)
  have V154 : Arv Z h154 b154 k154 .char (3 : Int32) [(.int (0 : Int32)), (.int (0 : Int32)), (.int (0 : Int32))] (.int (0 : Int32)) := (Arv.new A154 (by decide)).pad (pad_rep [] (.int (0 : Int32)) 3)
  refine own_on st154 ?_
  show own_Fin p e below _ (T154.setTop (mkF m 75 #[.val (.int q0), .val (.int q1), .val (.int q2), .val (.int q3), .val (.int (3 : Int32))] [(.ref b154), (.ref b153), (.ref b153)]))
  refine o_dup X154 H (od dB1 45 rfl) rfl ?_
  refine o_ic X154 H (od dB1 46 rfl) (v := 0) rfl ?_
  refine o_ildN X154 H (od dB1 47 rfl) rfl ?_
  have cp155 := V154
  obtain ⟨cl155, Ar155, q155, S155, G155, H155, F155⟩ := cp155
  have hin155 : ¬ ((0 : Int32) < 0 ∨ cl155.slots.size ≤ ((0 : Int32)).toNatClampNeg) := inb_of S155 ⟨by decide, by decide⟩
  obtain ⟨T155, h155, X155, e155, W155, st155⟩ := stC X154 hx hZ e154 Ar155 (j := (0 : Int32)) hin155 (g := (mkF m 78 #[.val (.int q0), .val (.int q1), .val (.int q2), .val (.int q3), .val (.int (3 : Int32))] [(.int q0), (.int (0 : Int32)), (.ref b154), (.ref b154), (.ref b153), (.ref b153)])) rfl rfl (hb hby (od dB1 48 rfl))
  have V155 : Arv Z h155 b154 k154 .char (3 : Int32) [(.int (nar .char q0)), (.int (0 : Int32)), (.int (0 : Int32))] (.int (0 : Int32)) := Arv.set Ar155 q155 S155 G155 H155 F155 (fits_nar_char _) W155 0 rfl (Nat.le_of_ble_eq_true rfl)
  have N155 := Fr.snoc X155 N0 gn154
  refine own_on st155 ?_
  show own_Fin p e below _ (T155.setTop (mkF m 79 #[.val (.int q0), .val (.int q1), .val (.int q2), .val (.int q3), .val (.int (3 : Int32))] [(.ref b154), (.ref b153), (.ref b153)]))
  refine o_dup X155 H (od dB1 49 rfl) rfl ?_
  refine o_ic X155 H (od dB1 50 rfl) (v := 1) rfl ?_
  refine o_ildN X155 H (od dB1 51 rfl) rfl ?_
  have cp156 := V155
  obtain ⟨cl156, Ar156, q156, S156, G156, H156, F156⟩ := cp156
  have hin156 : ¬ ((1 : Int32) < 0 ∨ cl156.slots.size ≤ ((1 : Int32)).toNatClampNeg) := inb_of S156 ⟨by decide, by decide⟩
  obtain ⟨T156, h156, X156, e156, W156, st156⟩ := stC X155 hx hZ e155 Ar156 (j := (1 : Int32)) hin156 (g := (mkF m 82 #[.val (.int q0), .val (.int q1), .val (.int q2), .val (.int q3), .val (.int (3 : Int32))] [(.int q1), (.int (1 : Int32)), (.ref b154), (.ref b154), (.ref b153), (.ref b153)])) rfl rfl (hb hby (od dB1 52 rfl))
  have V156 : Arv Z h156 b154 k154 .char (3 : Int32) [(.int (nar .char q0)), (.int (nar .char q1)), (.int (0 : Int32))] (.int (0 : Int32)) := Arv.set Ar156 q156 S156 G156 H156 F156 (fits_nar_char _) W156 1 rfl (Nat.le_of_ble_eq_true rfl)
  have N156 := Fr.snoc X156 N155 gn154
  have y157 := (Nat.le_trans (Nat.le_trans (Nat.le_trans (Nat.le_trans Z0 E153.1) E154.1) (Keep.of_wr W155).1) (Keep.of_wr W156).1)
  refine own_on st156 ?_
  show own_Fin p e below _ (T156.setTop (mkF m 83 #[.val (.int q0), .val (.int q1), .val (.int q2), .val (.int q3), .val (.int (3 : Int32))] [(.ref b154), (.ref b153), (.ref b153)]))
  refine o_dup X156 H (od dB1 53 rfl) rfl ?_
  refine o_ic X156 H (od dB1 54 rfl) (v := 2) rfl ?_
  refine o_ildN X156 H (od dB1 55 rfl) rfl ?_
  have cp158 := V156
  obtain ⟨cl158, Ar158, q158, S158, G158, H158, F158⟩ := cp158
  have hin158 : ¬ ((2 : Int32) < 0 ∨ cl158.slots.size ≤ ((2 : Int32)).toNatClampNeg) := inb_of S158 ⟨by decide, by decide⟩
  obtain ⟨T158, h158, X158, e158, W158, st158⟩ := stC X156 hx hZ e156 Ar158 (j := (2 : Int32)) hin158 (g := (mkF m 86 #[.val (.int q0), .val (.int q1), .val (.int q2), .val (.int q3), .val (.int (3 : Int32))] [(.int q2), (.int (2 : Int32)), (.ref b154), (.ref b154), (.ref b153), (.ref b153)])) rfl rfl (hb hby (od dB1 56 rfl))
  have V158 : Arv Z h158 b154 k154 .char (3 : Int32) [(.int (nar .char q0)), (.int (nar .char q1)), (.int (nar .char q2))] (.int (0 : Int32)) := Arv.set Ar158 q158 S158 G158 H158 F158 (fits_nar_char _) W158 2 rfl (Nat.le_of_ble_eq_true rfl)
  have N158 := Fr.snoc X158 N156 gn154
  have y159 := ((((((Keep.refl h0 []).ext E153).ext E154).wr W155 (Or.inr gk154)).wr W156 (Or.inr gk154)).wr W158 (Or.inr gk154))
  have y160 := ((((F153_value.ext E154).other W155 (Or.inl ne154_b153)).other W156 (Or.inl ne154_b153)).other W158 (Or.inl ne154_b153))
  have y161 := ((((F153_coder.ext E154).other W155 (Or.inl ne154_b153)).other W156 (Or.inl ne154_b153)).other W158 (Or.inl ne154_b153))
  refine own_on st158 ?_
  show own_Fin p e below _ (T158.setTop (mkF m 87 #[.val (.int q0), .val (.int q1), .val (.int q2), .val (.int q3), .val (.int (3 : Int32))] [(.ref b154), (.ref b153), (.ref b153)]))
  have V162 : Arv Z h158 b154 k154 .char (3 : Int32) ([q0, q1, q2].map Value.int) (.int (0 : Int32)) := by have q := V158; simp only [own_narc rq0, own_narc rq1, own_narc rq2] at q; exact q
  have rg163 : ∀ q_ ∈ [q0, q1, q2], ¬ q_ < 0 ∧ ¬ (255 : Int32) < q_ := List.forall_mem_cons.mpr ⟨rq0, List.forall_mem_cons.mpr ⟨rq1, List.forall_mem_cons.mpr ⟨rq2, fun _ q => nomatch q⟩⟩⟩
  obtain ⟨_, _, ⟨T162, L162, k162, n162⟩, -, X162, ⟨Lc162, hQ162, l162, y162, z162⟩, st162⟩ := X158.specialBack hx (y := (⟨"java/lang/String", "<init>", "([C)V"⟩ : MethodName)) rfl hown (mvT hZ (ow hw 8 rfl)) (mvT hZ (ow hw 9 rfl)) (mvT hZ (ow hw 10 rfl)) (by decide) (StrChars.Road.backV (W := 1) hZ (own_wV hw) (ow hw 5 rfl) (n0 := n0) (n := 3) gn153 (Nat.le_trans y157 (Keep.of_wr W158).1) ((((A153.ext E154).wr W155).wr W156).wr W158) y160 y161 V162 (SC.ext (((((O.ext E153).ext E154).wr W155 gn154).wr W156 gn154).wr W158 gn154).2) hz rfl rfl (by decide) (by decide) rg163 rfl (by decide) (by decide)) (g := (mkF m 87 #[.val (.int q0), .val (.int q1), .val (.int q2), .val (.int q3), .val (.int (3 : Int32))] [(.ref b154), (.ref b153), (.ref b153)])) rfl hml.symm (Steps.refl _) (a := b153) (argsL := [(.ref b154)]) (rest := [(.ref b153)]) (lenOf pd_22 rfl) rfl (o_mr rfl) (hb hby (od dB1 57 rfl)) (fun _ _ => ⟨rfl, e158, (by decide : 2 + 1 ≤ _), (by decide : 7 + 3 ≤ _)⟩)
  dsimp only [Pt.U, Pt.locs, Pt.cells, Pt.slots] at X162 l162 y162 z162 st162 hQ162
  replace l162 := l162.symm; replace y162 := y162.symm; replace z162 := z162.symm; subst l162 y162 z162
  obtain ⟨rfl, N162q, K162, Eq162, Cq162, t162, kt162, gt162, kk162, nt162, Vq162, Aq162⟩ := hQ162
  have N162 := Fr.app N158 N162q
  have Aw162 : Arv Z T162.heap t162 kt162 .byte (3 : Int32) (([q0, q1, q2].map StrChars.lo8).map Value.int) (.int 0) := Aq162
  refine own_via st162 ?_
  show own_Fin p e below _ (T162.setTop (mkF m 90 #[.val (.int q0), .val (.int q1), .val (.int q2), .val (.int q3), .val (.int (3 : Int32))] [(.ref b153)]))
  exact own_ret (t := (.object "java/lang/String")) X162 hx hlk hret rfl (Or.inr (Or.inr (Or.inr (Or.inr ⟨rfl, rfl, rfl⟩)))) (hb hby (od dB1 58 rfl)) (by show QMk3 Z q0 q1 q2 q3 z h0 n0 _ T162.heap _; exact ⟨b153, t162, kt162, rfl, N162, (y159.trans K162 (allS (Or.inr gk153) all0)), Eq162, Cq162, Vq162, Aw162⟩) (by decide) (by decide)
theorem ef_rmMk4 (m : MethodId) (x0 : Int32) (x1 : Int32) (x2 : Int32) (x3 : Int32) (x4 : Int32) : entryFrame m #[(.int x0), (.int x1), (.int x2), (.int x3), (.int x4)] 5 = mkF m 0 #[.val (.int x0), .val (.int x1), .val (.int x2), .val (.int x3), .val (.int x4)] [] := by first | (simp [entryFrame, mkF, argsToLocals, Value.category]; done) | rfl
def QMk4 (Z : State) (q0 : Int32) (q1 : Int32) (q2 : Int32) (q3 : Int32) (z : Int32) (h0 : Heap) (n0 : Nat) (v : Option Value) (h : Heap) (L : List Loc) : Prop := ∃ (x t : Addr) (kb : ClassId), v = some (.ref x) ∧ Fr n0 L ∧ Keep h0 h [] ∧ Exa Z h x "java/lang/String" ∧ Fld Z h x "java/lang/String" "coder" "B" (.int 0) ∧ Fld Z h x "java/lang/String" "value" "[B" (.ref t) ∧ Arv Z h t kb .byte (4 : Int32) (([q0, q1, q2, q3].map StrChars.lo8).map Value.int) (.int 0)
set_option maxRecDepth 65536 in
set_option maxHeartbeats 40000000 in
theorem rmMk4 (l : Launch) (Z : State) (a0 : Array Value) (hw : ∀ d ∈ tables_1, d.before a0 Z = true) (ws : List Jvm.Cond) (q0 : Int32) (q1 : Int32) (q2 : Int32) (q3 : Int32) (z : Int32) (h0 : Heap) (n0 : Nat) (Z0 : n0 ≤ h0.size) (rq0 : ¬ q0 < 0 ∧ ¬ (255 : Int32) < q0) (rq1 : ¬ q1 < 0 ∧ ¬ (255 : Int32) < q1) (rq2 : ¬ q2 < 0 ∧ ¬ (255 : Int32) < q2) (rq3 : ¬ q3 < 0 ∧ ¬ (255 : Int32) < q3) (hz : ¬ z = (0 : Int32)) (O : Old Z n0 h0) (SC : Sta Z Z.heap "java/lang/String" "COMPACT_STRINGS" "Z" (.int z)) :
    own_M l (⟨"com/example/covenantry/covenantry/input/LedgerIsUnderPinLaw", "mk", "(CCCCI)Ljava/lang/String;"⟩ : MethodName) method_3_code 5 (some (.object "java/lang/String")) ws ({ frames := 4, cells := 3, slots := 12, locals := 66 } : Room) #[(.int q0), (.int q1), (.int q2), (.int q3), (.int (4 : Int32))] Z h0 (QMk4 Z q0 q1 q2 q3 z h0 n0) := by
  refine MetFree.of_bodySF (plainFor_of_name pn_6) hisR ?_
  intro p e s m args below meth cd s₁ Bd hml hP hK
  obtain ⟨rfl, hZ, hh⟩ := hP
  obtain ⟨X0, e0, H, hlk, hown, hret⟩ := own_start (R := ({ frames := 4, cells := 3, slots := 12, locals := 66 } : Room)) Bd hh rfl
  have hx := H.1; have hby := H.2; have N0 := Fr.nil n0
  show own_Fin p e below (own_Ans s (QMk4 Z q0 q1 q2 q3 z h0 n0) ({ frames := 4, cells := 3, slots := 12, locals := 66 } : Room).cells ({ frames := 4, cells := 3, slots := 12, locals := 66 } : Room).slots) (s₁.setTop (entryFrame m #[(.int q0), (.int q1), (.int q2), (.int q3), (.int (4 : Int32))] 5))
  refine own_cast (ef_rmMk4 m q0 q1 q2 q3 (4 : Int32)) ?_
  show own_Fin p e below _ (s₁.setTop (mkF m 0 #[.val (.int q0), .val (.int q1), .val (.int q2), .val (.int q3), .val (.int (4 : Int32))] []))
  refine o_ild X0 H (od dB1 0 rfl) rfl ?_
  refine o_ifY X0 H (od dB1 1 rfl) ((if0 _ _).trans (feq (by decide : ¬ ((4 : Int32) = (0 : Int32)))).2) (pc' := 16) (by decide) (by decide) ?_
  refine o_ild X0 H (od dB1 8 rfl) rfl ?_
  refine o_ic X0 H (od dB1 9 rfl) (v := 1) rfl ?_
  refine o_icY X0 H (od dB1 10 rfl) (feq (by decide : ¬ ((4 : Int32) = (1 : Int32)))).2 (pc' := 37) (by decide) (by decide) ?_
  refine o_ild X0 H (od dB1 21 rfl) rfl ?_
  refine o_ic X0 H (od dB1 22 rfl) (v := 2) rfl ?_
  refine o_icY X0 H (od dB1 23 rfl) (feq (by decide : ¬ ((4 : Int32) = (2 : Int32)))).2 (pc' := 62) (by decide) (by decide) ?_
  refine o_ild X0 H (od dB1 38 rfl) rfl ?_
  refine o_ic X0 H (od dB1 39 rfl) (v := 3) rfl ?_
  refine o_icY X0 H (od dB1 40 rfl) (feq (by decide : ¬ ((4 : Int32) = (3 : Int32)))).2 (pc' := 91) (by decide) (by decide) ?_
  obtain ⟨T164, h164, X164, e164, E164, A164, D164, -, st164⟩ := newO X0 hx hZ hown (ow hw 4 rfl) (ow hw 5 rfl) (ow hw 6 rfl) e0 (g := (mkF m 91 #[.val (.int q0), .val (.int q1), .val (.int q2), .val (.int q3), .val (.int (4 : Int32))] [])) rfl (hb hby (od dB1 59 rfl)) (by decide) (by decide)
  obtain ⟨b164, g164⟩ : ∃ z, z = h0.size := ⟨_, rfl⟩
  rw [← g164] at A164 D164 st164
  have gn164 : n0 ≤ b164 := Nat.le_trans Z0 (Nat.le_of_eq g164.symm)
  have gk164 : h0.size ≤ b164 := Nat.le_trans (Keep.refl h0 []).1 (Nat.le_of_eq g164.symm)
  have F164_value : Fld Z h164 b164 "java/lang/String" "value" "[B" .null := D164 (Or.inr (ow hw 20 rfl)) (ty := (.array .byte)) (by decide)
  have F164_coder : Fld Z h164 b164 "java/lang/String" "coder" "B" (.int (0 : Int32)) := D164 (Or.inr (ow hw 21 rfl)) (ty := .byte) (by decide)
  refine own_on st164 ?_
  show own_Fin p e below _ (T164.setTop (mkF m 94 #[.val (.int q0), .val (.int q1), .val (.int q2), .val (.int q3), .val (.int (4 : Int32))] [(.ref b164)]))
  refine o_dup X164 H (od dB1 60 rfl) rfl ?_
  refine o_ic X164 H (od dB1 61 rfl) (v := 4) rfl ?_
  obtain ⟨T165, h165, k165, X165, e165, E165, A165, st165⟩ := newP X164 hx hZ (ow hw 7 rfl) e164 (g := (mkF m 96 #[.val (.int q0), .val (.int q1), .val (.int q2), .val (.int q3), .val (.int (4 : Int32))] [(.int (4 : Int32)), (.ref b164), (.ref b164)])) rfl (hb hby (od dB1 62 rfl)) rfl (by decide) (cap := 4) (by decide) (by decide) (by decide) (by decide)
  obtain ⟨b165, g165⟩ : ∃ z, z = h164.size := ⟨_, rfl⟩
  rw [← g165] at A165 st165
  have ne165_b164 : b164 ≠ b165 := own_ne_of (Z := Z) A164.lt g165
  have gn165 : n0 ≤ b165 := Nat.le_trans (Nat.le_trans Z0 E164.1) (Nat.le_of_eq g165.symm)
  have gk165 : h0.size ≤ b165 := Nat.le_trans ((Keep.refl h0 []).ext E164).1 (Nat.le_of_eq g165.symm)
  have V165 : Arv Z h165 b165 k165 .char (4 : Int32) [(.int (0 : Int32)), (.int (0 : Int32)), (.int (0 : Int32)), (.int (0 : Int32))] (.int (0 : Int32)) := (Arv.new A165 (by decide)).pad (pad_rep [] (.int (0 : Int32)) 4)
  refine own_on st165 ?_
  show own_Fin p e below _ (T165.setTop (mkF m 98 #[.val (.int q0), .val (.int q1), .val (.int q2), .val (.int q3), .val (.int (4 : Int32))] [(.ref b165), (.ref b164), (.ref b164)]))
  refine o_dup X165 H (od dB1 63 rfl) rfl ?_
  refine o_ic X165 H (od dB1 64 rfl) (v := 0) rfl ?_
  refine o_ildN X165 H (od dB1 65 rfl) rfl ?_
  have cp166 := V165
  obtain ⟨cl166, Ar166, q166, S166, G166, H166, F166⟩ := cp166
  have hin166 : ¬ ((0 : Int32) < 0 ∨ cl166.slots.size ≤ ((0 : Int32)).toNatClampNeg) := inb_of S166 ⟨by decide, by decide⟩
  obtain ⟨T166, h166, X166, e166, W166, st166⟩ := stC X165 hx hZ e165 Ar166 (j := (0 : Int32)) hin166 (g := (mkF m 101 #[.val (.int q0), .val (.int q1), .val (.int q2), .val (.int q3), .val (.int (4 : Int32))] [(.int q0), (.int (0 : Int32)), (.ref b165), (.ref b165), (.ref b164), (.ref b164)])) rfl rfl (hb hby (od dB1 66 rfl))
  have V166 : Arv Z h166 b165 k165 .char (4 : Int32) [(.int (nar .char q0)), (.int (0 : Int32)), (.int (0 : Int32)), (.int (0 : Int32))] (.int (0 : Int32)) := Arv.set Ar166 q166 S166 G166 H166 F166 (fits_nar_char _) W166 0 rfl (Nat.le_of_ble_eq_true rfl)
  have N166 := Fr.snoc X166 N0 gn165
  refine own_on st166 ?_
  show own_Fin p e below _ (T166.setTop (mkF m 102 #[.val (.int q0), .val (.int q1), .val (.int q2), .val (.int q3), .val (.int (4 : Int32))] [(.ref b165), (.ref b164), (.ref b164)]))
  refine o_dup X166 H (od dB1 67 rfl) rfl ?_
  refine o_ic X166 H (od dB1 68 rfl) (v := 1) rfl ?_
  refine o_ildN X166 H (od dB1 69 rfl) rfl ?_
  have cp167 := V166
  obtain ⟨cl167, Ar167, q167, S167, G167, H167, F167⟩ := cp167
  have hin167 : ¬ ((1 : Int32) < 0 ∨ cl167.slots.size ≤ ((1 : Int32)).toNatClampNeg) := inb_of S167 ⟨by decide, by decide⟩
  obtain ⟨T167, h167, X167, e167, W167, st167⟩ := stC X166 hx hZ e166 Ar167 (j := (1 : Int32)) hin167 (g := (mkF m 105 #[.val (.int q0), .val (.int q1), .val (.int q2), .val (.int q3), .val (.int (4 : Int32))] [(.int q1), (.int (1 : Int32)), (.ref b165), (.ref b165), (.ref b164), (.ref b164)])) rfl rfl (hb hby (od dB1 70 rfl))
  have V167 : Arv Z h167 b165 k165 .char (4 : Int32) [(.int (nar .char q0)), (.int (nar .char q1)), (.int (0 : Int32)), (.int (0 : Int32))] (.int (0 : Int32)) := Arv.set Ar167 q167 S167 G167 H167 F167 (fits_nar_char _) W167 1 rfl (Nat.le_of_ble_eq_true rfl)
  have N167 := Fr.snoc X167 N166 gn165
  have y168 := (Nat.le_trans (Nat.le_trans (Nat.le_trans (Nat.le_trans Z0 E164.1) E165.1) (Keep.of_wr W166).1) (Keep.of_wr W167).1)
  refine own_on st167 ?_
  show own_Fin p e below _ (T167.setTop (mkF m 106 #[.val (.int q0), .val (.int q1), .val (.int q2), .val (.int q3), .val (.int (4 : Int32))] [(.ref b165), (.ref b164), (.ref b164)]))
  refine o_dup X167 H (od dB1 71 rfl) rfl ?_
  refine o_ic X167 H (od dB1 72 rfl) (v := 2) rfl ?_
  refine o_ildN X167 H (od dB1 73 rfl) rfl ?_
  have cp169 := V167
  obtain ⟨cl169, Ar169, q169, S169, G169, H169, F169⟩ := cp169
  have hin169 : ¬ ((2 : Int32) < 0 ∨ cl169.slots.size ≤ ((2 : Int32)).toNatClampNeg) := inb_of S169 ⟨by decide, by decide⟩
  obtain ⟨T169, h169, X169, e169, W169, st169⟩ := stC X167 hx hZ e167 Ar169 (j := (2 : Int32)) hin169 (g := (mkF m 109 #[.val (.int q0), .val (.int q1), .val (.int q2), .val (.int q3), .val (.int (4 : Int32))] [(.int q2), (.int (2 : Int32)), (.ref b165), (.ref b165), (.ref b164), (.ref b164)])) rfl rfl (hb hby (od dB1 74 rfl))
  have V169 : Arv Z h169 b165 k165 .char (4 : Int32) [(.int (nar .char q0)), (.int (nar .char q1)), (.int (nar .char q2)), (.int (0 : Int32))] (.int (0 : Int32)) := Arv.set Ar169 q169 S169 G169 H169 F169 (fits_nar_char _) W169 2 rfl (Nat.le_of_ble_eq_true rfl)
  have N169 := Fr.snoc X169 N167 gn165
  have y170 := ((((((Keep.refl h0 []).ext E164).ext E165).wr W166 (Or.inr gk165)).wr W167 (Or.inr gk165)).wr W169 (Or.inr gk165))
  have y171 := ((((F164_value.ext E165).other W166 (Or.inl ne165_b164)).other W167 (Or.inl ne165_b164)).other W169 (Or.inl ne165_b164))
  have y172 := ((((F164_coder.ext E165).other W166 (Or.inl ne165_b164)).other W167 (Or.inl ne165_b164)).other W169 (Or.inl ne165_b164))
  refine own_on st169 ?_
  show own_Fin p e below _ (T169.setTop (mkF m 110 #[.val (.int q0), .val (.int q1), .val (.int q2), .val (.int q3), .val (.int (4 : Int32))] [(.ref b165), (.ref b164), (.ref b164)]))
  refine o_dup X169 H (od dB1 75 rfl) rfl ?_
  refine o_ic X169 H (od dB1 76 rfl) (v := 3) rfl ?_
  refine o_ildN X169 H (od dB1 77 rfl) rfl ?_
  have cp173 := V169
  obtain ⟨cl173, Ar173, q173, S173, G173, H173, F173⟩ := cp173
  have hin173 : ¬ ((3 : Int32) < 0 ∨ cl173.slots.size ≤ ((3 : Int32)).toNatClampNeg) := inb_of S173 ⟨by decide, by decide⟩
  obtain ⟨T173, h173, X173, e173, W173, st173⟩ := stC X169 hx hZ e169 Ar173 (j := (3 : Int32)) hin173 (g := (mkF m 113 #[.val (.int q0), .val (.int q1), .val (.int q2), .val (.int q3), .val (.int (4 : Int32))] [(.int q3), (.int (3 : Int32)), (.ref b165), (.ref b165), (.ref b164), (.ref b164)])) rfl rfl (hb hby (od dB1 78 rfl))
  have V173 : Arv Z h173 b165 k165 .char (4 : Int32) [(.int (nar .char q0)), (.int (nar .char q1)), (.int (nar .char q2)), (.int (nar .char q3))] (.int (0 : Int32)) := Arv.set Ar173 q173 S173 G173 H173 F173 (fits_nar_char _) W173 3 rfl (Nat.le_of_ble_eq_true rfl)
  have N173 := Fr.snoc X173 N169 gn165
  refine own_on st173 ?_
  show own_Fin p e below _ (T173.setTop (mkF m 114 #[.val (.int q0), .val (.int q1), .val (.int q2), .val (.int q3), .val (.int (4 : Int32))] [(.ref b165), (.ref b164), (.ref b164)]))
  have V174 : Arv Z h173 b165 k165 .char (4 : Int32) ([q0, q1, q2, q3].map Value.int) (.int (0 : Int32)) := by have q := V173; simp only [own_narc rq0, own_narc rq1, own_narc rq2, own_narc rq3] at q; exact q
  have rg175 : ∀ q_ ∈ [q0, q1, q2, q3], ¬ q_ < 0 ∧ ¬ (255 : Int32) < q_ := List.forall_mem_cons.mpr ⟨rq0, List.forall_mem_cons.mpr ⟨rq1, List.forall_mem_cons.mpr ⟨rq2, List.forall_mem_cons.mpr ⟨rq3, fun _ q => nomatch q⟩⟩⟩⟩
  obtain ⟨_, _, ⟨T174, L174, k174, n174⟩, -, X174, ⟨Lc174, hQ174, l174, y174, z174⟩, st174⟩ := X173.specialBack hx (y := (⟨"java/lang/String", "<init>", "([C)V"⟩ : MethodName)) rfl hown (mvT hZ (ow hw 8 rfl)) (mvT hZ (ow hw 9 rfl)) (mvT hZ (ow hw 10 rfl)) (by decide) (StrChars.Road.backV (W := 1) hZ (own_wV hw) (ow hw 5 rfl) (n0 := n0) (n := 4) gn164 (Nat.le_trans (Nat.le_trans y168 (Keep.of_wr W169).1) (Keep.of_wr W173).1) (((((A164.ext E165).wr W166).wr W167).wr W169).wr W173) (y171.other W173 (Or.inl ne165_b164)) (y172.other W173 (Or.inl ne165_b164)) V174 (SC.ext ((((((O.ext E164).ext E165).wr W166 gn165).wr W167 gn165).wr W169 gn165).wr W173 gn165).2) hz rfl rfl (by decide) (by decide) rg175 rfl (by decide) (by decide)) (g := (mkF m 114 #[.val (.int q0), .val (.int q1), .val (.int q2), .val (.int q3), .val (.int (4 : Int32))] [(.ref b165), (.ref b164), (.ref b164)])) rfl hml.symm (Steps.refl _) (a := b164) (argsL := [(.ref b165)]) (rest := [(.ref b164)]) (lenOf pd_22 rfl) rfl (o_mr rfl) (hb hby (od dB1 79 rfl)) (fun _ _ => ⟨rfl, e173, (by decide : 2 + 1 ≤ _), (by decide : 8 + 4 ≤ _)⟩)
  dsimp only [Pt.U, Pt.locs, Pt.cells, Pt.slots] at X174 l174 y174 z174 st174 hQ174
  replace l174 := l174.symm; replace y174 := y174.symm; replace z174 := z174.symm; subst l174 y174 z174
  obtain ⟨rfl, N174q, K174, Eq174, Cq174, t174, kt174, gt174, kk174, nt174, Vq174, Aq174⟩ := hQ174
  have N174 := Fr.app N173 N174q
  have y176 := (((((((O.ext E164).ext E165).wr W166 gn165).wr W167 gn165).wr W169 gn165).wr W173 gn165).keep K174 (allS gn164 all0))
  have Aw174 : Arv Z T174.heap t174 kt174 .byte (4 : Int32) (([q0, q1, q2, q3].map StrChars.lo8).map Value.int) (.int 0) := Aq174
  refine own_via st174 ?_
  show own_Fin p e below _ (T174.setTop (mkF m 117 #[.val (.int q0), .val (.int q1), .val (.int q2), .val (.int q3), .val (.int (4 : Int32))] [(.ref b164)]))
  exact own_ret (t := (.object "java/lang/String")) X174 hx hlk hret rfl (Or.inr (Or.inr (Or.inr (Or.inr ⟨rfl, rfl, rfl⟩)))) (hb hby (od dB1 80 rfl)) (by show QMk4 Z q0 q1 q2 q3 z h0 n0 _ T174.heap _; exact ⟨b164, t174, kt174, rfl, N174, ((y170.wr W173 (Or.inr gk165)).trans K174 (allS (Or.inr gk164) all0)), Eq174, Cq174, Vq174, Aw174⟩) (by decide) (by decide)
theorem own_mergeA {p : Program} {e : Env} {below : List Frame} {P : Outcome → State → Prop} {A : State} {B : Int32 → Int32 → Int32 → Int32 → State} {R : Int32 → Int32 → Int32 → Int32 → Prop} (h : ∀ a b c d, R a b c d → own_Fin p e below P (B a b c d)) (k : (∀ a b c d, R a b c d → own_Fin p e below P (B a b c d)) → own_Fin p e below P A) : own_Fin p e below P A := k h
theorem own_rem5 (x : Int32) : (x.toUInt32 >>> ((8 : Int32) &&& 31).toUInt32).toInt32 % (5 : Int32) = 0 ∨ (x.toUInt32 >>> ((8 : Int32) &&& 31).toUInt32).toInt32 % (5 : Int32) = 1 ∨ (x.toUInt32 >>> ((8 : Int32) &&& 31).toUInt32).toInt32 % (5 : Int32) = 2 ∨ (x.toUInt32 >>> ((8 : Int32) &&& 31).toUInt32).toInt32 % (5 : Int32) = 3 ∨ (x.toUInt32 >>> ((8 : Int32) &&& 31).toUInt32).toInt32 % (5 : Int32) = 4 := by
  have a := c_iushr x 8 8 (by decide) (by decide)
  have r := rng32 x
  have b := (c_irem ((x.toUInt32 >>> ((8 : Int32) &&& 31).toUInt32).toInt32) 5 5 (by decide)).1 (by omega)
  generalize (x.toUInt32 >>> ((8 : Int32) &&& 31).toUInt32).toInt32 = y at *
  have z0 : (0 : Int32).toInt = 0 := by decide
  have z1 : (1 : Int32).toInt = 1 := by decide
  have z2 : (2 : Int32).toInt = 2 := by decide
  have z3 : (3 : Int32).toInt = 3 := by decide
  have z4 : (4 : Int32).toInt = 4 := by decide
  rw [← Int32.toInt_inj, ← Int32.toInt_inj, ← Int32.toInt_inj, ← Int32.toInt_inj, ← Int32.toInt_inj]
  omega
theorem pd_23 : parseMethodDescriptor "(Ljava/lang/String;Ljava/lang/String;)Z" = some ⟨[(.object "java/lang/String"), (.object "java/lang/String")], some .boolean⟩ := by decide +kernel
theorem pd_24 : parseMethodDescriptor "(CCCCI)Ljava/lang/String;" = some ⟨[.char, .char, .char, .char, .int], some (.object "java/lang/String")⟩ := by decide +kernel
theorem ef_rm0 (m : MethodId) (x0 : Int32) (x1 : Int32) (x2 : Int32) : entryFrame m #[(.int x0), (.int x1), (.int x2)] maxLocals = mkF m 0 #[.val (.int x0), .val (.int x1), .val (.int x2), .unset, .unset, .unset, .unset, .unset, .unset, .unset, .unset, .unset, .unset, .unset, .unset, .unset, .unset] [] := by first | (simp [entryFrame, mkF, argsToLocals, Value.category, maxLocals]; done) | rfl
def Q0 (Z : State) (p1 : Int32) (p2 : Int32) (p3 : Int32) (z : Int32) (h0 : Heap) (n0 : Nat) (v : Option Value) (h : Heap) (L : List Loc) : Prop := v = some (.int 1) ∧ Fr n0 L
set_option maxRecDepth 65536 in
set_option maxHeartbeats 40000000 in
theorem rm0 (l : Launch) (Z : State) (a0 : Array Value) (hw : ∀ d ∈ tables_1, d.before a0 Z = true) (ws : List Jvm.Cond) (p1 : Int32) (p2 : Int32) (p3 : Int32) (z : Int32) (h0 : Heap) (n0 : Nat) (Z0 : n0 ≤ h0.size) (hEL : EW Z a0 own_EL) (hz : ¬ z = (0 : Int32)) (O : Old Z n0 h0) (SC : Sta Z Z.heap "java/lang/String" "COMPACT_STRINGS" "Z" (.int z)) :
    MetFree l Jvm.Pilot.@@N@@.x (head1 (Jvm.Cond.code Jvm.Pilot.@@N@@.x code maxLocals ret :: ws) room_1) (fun as_ U => as_ = #[(.int p1), (.int p2), (.int p3)] ∧ Z.Warmed39 U.vm ∧ U.heap = h0 ∧ CHv Z own_EL U.vm h0) (fun _ _ _ _ _ => True) (fun _ U out_ U' => ∃ v L, out_ = .returned v ∧ Q0 Z p1 p2 p3 z h0 n0 v U'.heap L ∧ CHr Z own_EL U.vm U.heap U'.vm U'.heap ∧ ReturnedEndW U out_ U' L room_1.cells room_1.slots) := by
  refine MetFree.of_bodySF (plainFor_of_name pn_6) hisR ?_
  intro p e s m args below meth cd s₁ Bd hml0 hP hK
  obtain ⟨rfl, hZ, hh, CH0⟩ := hP
  have hx := Bd.exec
  have hby := Bd.bytes
  have hml : cd.maxLocals = 17 := hml0
  have hlk : meth.locks = false := BodyLoose.notSynchronized Bd
  have hown : s.vm.findClass "com/example/covenantry/covenantry/input/LedgerIsUnderPinLaw" = some m.cls := findClass_of_methodNamed Bd.named
  have hnm := (name_of_methodNamed Bd.named Bd.method).1
  have hret := Bd.returns
  have H := And.intro hx hby
  have X0 : Stand p l e room_1 (s.setVm s.vm) m #[(.int p1), (.int p2), (.int p3)] below meth cd s₁ [] 0 0 := Stand.of_body Bd
  have e0 : s₁.heap = h0 := by rw [← hh, Bd.state]; rfl
  have N0 := Fr.nil n0
  have hS0 : s.Since s.vm 0 := (State.WarmedH.refl s).since 0
  have wS := own_wS hw
  show own_Fin p e below (own_AnsW s Z own_EL (Q0 Z p1 p2 p3 z h0 n0) room_1.cells room_1.slots) (s₁.setTop (entryFrame m #[(.int p1), (.int p2), (.int p3)] maxLocals))
  refine own_cast (ef_rm0 m p1 p2 p3) ?_
  show own_Fin p e below _ (s₁.setTop (mkF m 0 #[.val (.int p1), .val (.int p2), .val (.int p3), .unset, .unset, .unset, .unset, .unset, .unset, .unset, .unset, .unset, .unset, .unset, .unset, .unset, .unset] []))
  refine o_ildN X0 H at_0 rfl ?_
  refine o_si X0 H at_1 (v := 255) rfl ?_
  refine o_iand X0 H at_4 ?_
  refine own_on (fun tq => XS.i2c X0.here hx rfl (hb hby at_5) rfl) ?_
  show own_Fin p e below _ (s₁.setTop (mkF m 6 #[.val (.int p1), .val (.int p2), .val (.int p3), .unset, .unset, .unset, .unset, .unset, .unset, .unset, .unset, .unset, .unset, .unset, .unset, .unset, .unset] [(.int ((p1 &&& (255 : Int32)).toUInt32.toUInt16.toUInt32.toInt32))]))
  obtain ⟨s0, hs0⟩ : ∃ q : Int32, q = ((p1 &&& (255 : Int32)).toUInt32.toUInt16.toUInt32.toInt32) := ⟨_, rfl⟩
  have rs0 : ¬ s0 < 0 ∧ ¬ (255 : Int32) < s0 := hs0 ▸ own_c255 _
  rw [← hs0]
  show own_Fin p e below _ (s₁.setTop (mkF m 6 #[.val (.int p1), .val (.int p2), .val (.int p3), .unset, .unset, .unset, .unset, .unset, .unset, .unset, .unset, .unset, .unset, .unset, .unset, .unset, .unset] [(.int s0)]))
  refine o_istN X0 H at_6 (L' := #[.val (.int p1), .val (.int p2), .val (.int p3), .val (.int s0), .unset, .unset, .unset, .unset, .unset, .unset, .unset, .unset, .unset, .unset, .unset, .unset, .unset]) rfl ?_
  refine o_ildN X0 H at_7 rfl ?_
  refine o_bi X0 H at_8 (v := 8) rfl ?_
  refine own_on (fun tq => XS.iushr X0.here hx rfl (hb hby at_10) rfl) ?_
  show own_Fin p e below _ (s₁.setTop (mkF m 11 #[.val (.int p1), .val (.int p2), .val (.int p3), .val (.int s0), .unset, .unset, .unset, .unset, .unset, .unset, .unset, .unset, .unset, .unset, .unset, .unset, .unset] [(.int ((p1.toUInt32 >>> ((8 : Int32) &&& 31).toUInt32).toInt32))]))
  refine o_si X0 H at_11 (v := 255) rfl ?_
  refine o_iand X0 H at_14 ?_
  refine own_on (fun tq => XS.i2c X0.here hx rfl (hb hby at_15) rfl) ?_
  show own_Fin p e below _ (s₁.setTop (mkF m 16 #[.val (.int p1), .val (.int p2), .val (.int p3), .val (.int s0), .unset, .unset, .unset, .unset, .unset, .unset, .unset, .unset, .unset, .unset, .unset, .unset, .unset] [(.int ((((p1.toUInt32 >>> ((8 : Int32) &&& 31).toUInt32).toInt32) &&& (255 : Int32)).toUInt32.toUInt16.toUInt32.toInt32))]))
  obtain ⟨s1, hs1⟩ : ∃ q : Int32, q = ((((p1.toUInt32 >>> ((8 : Int32) &&& 31).toUInt32).toInt32) &&& (255 : Int32)).toUInt32.toUInt16.toUInt32.toInt32) := ⟨_, rfl⟩
  have rs1 : ¬ s1 < 0 ∧ ¬ (255 : Int32) < s1 := hs1 ▸ own_c255 _
  rw [← hs1]
  show own_Fin p e below _ (s₁.setTop (mkF m 16 #[.val (.int p1), .val (.int p2), .val (.int p3), .val (.int s0), .unset, .unset, .unset, .unset, .unset, .unset, .unset, .unset, .unset, .unset, .unset, .unset, .unset] [(.int s1)]))
  refine o_ist X0 H at_16 (L' := #[.val (.int p1), .val (.int p2), .val (.int p3), .val (.int s0), .val (.int s1), .unset, .unset, .unset, .unset, .unset, .unset, .unset, .unset, .unset, .unset, .unset, .unset]) rfl ?_
  refine o_ildN X0 H at_18 rfl ?_
  refine o_bi X0 H at_19 (v := 16) rfl ?_
  refine own_on (fun tq => XS.iushr X0.here hx rfl (hb hby at_21) rfl) ?_
  show own_Fin p e below _ (s₁.setTop (mkF m 22 #[.val (.int p1), .val (.int p2), .val (.int p3), .val (.int s0), .val (.int s1), .unset, .unset, .unset, .unset, .unset, .unset, .unset, .unset, .unset, .unset, .unset, .unset] [(.int ((p1.toUInt32 >>> ((16 : Int32) &&& 31).toUInt32).toInt32))]))
  refine o_si X0 H at_22 (v := 255) rfl ?_
  refine o_iand X0 H at_25 ?_
  refine own_on (fun tq => XS.i2c X0.here hx rfl (hb hby at_26) rfl) ?_
  show own_Fin p e below _ (s₁.setTop (mkF m 27 #[.val (.int p1), .val (.int p2), .val (.int p3), .val (.int s0), .val (.int s1), .unset, .unset, .unset, .unset, .unset, .unset, .unset, .unset, .unset, .unset, .unset, .unset] [(.int ((((p1.toUInt32 >>> ((16 : Int32) &&& 31).toUInt32).toInt32) &&& (255 : Int32)).toUInt32.toUInt16.toUInt32.toInt32))]))
  obtain ⟨s2, hs2⟩ : ∃ q : Int32, q = ((((p1.toUInt32 >>> ((16 : Int32) &&& 31).toUInt32).toInt32) &&& (255 : Int32)).toUInt32.toUInt16.toUInt32.toInt32) := ⟨_, rfl⟩
  have rs2 : ¬ s2 < 0 ∧ ¬ (255 : Int32) < s2 := hs2 ▸ own_c255 _
  rw [← hs2]
  show own_Fin p e below _ (s₁.setTop (mkF m 27 #[.val (.int p1), .val (.int p2), .val (.int p3), .val (.int s0), .val (.int s1), .unset, .unset, .unset, .unset, .unset, .unset, .unset, .unset, .unset, .unset, .unset, .unset] [(.int s2)]))
  refine o_ist X0 H at_27 (L' := #[.val (.int p1), .val (.int p2), .val (.int p3), .val (.int s0), .val (.int s1), .val (.int s2), .unset, .unset, .unset, .unset, .unset, .unset, .unset, .unset, .unset, .unset, .unset]) rfl ?_
  refine o_ildN X0 H at_29 rfl ?_
  refine o_bi X0 H at_30 (v := 24) rfl ?_
  refine own_on (fun tq => XS.iushr X0.here hx rfl (hb hby at_32) rfl) ?_
  show own_Fin p e below _ (s₁.setTop (mkF m 33 #[.val (.int p1), .val (.int p2), .val (.int p3), .val (.int s0), .val (.int s1), .val (.int s2), .unset, .unset, .unset, .unset, .unset, .unset, .unset, .unset, .unset, .unset, .unset] [(.int ((p1.toUInt32 >>> ((24 : Int32) &&& 31).toUInt32).toInt32))]))
  refine o_ic X0 H at_33 (v := 3) rfl ?_
  refine o_iand X0 H at_34 ?_
  obtain ⟨sl, hsl⟩ : ∃ q : Int32, q = (((p1.toUInt32 >>> ((24 : Int32) &&& 31).toUInt32).toInt32) &&& (3 : Int32)) := ⟨_, rfl⟩
  rw [← hsl]
  show own_Fin p e below _ (s₁.setTop (mkF m 35 #[.val (.int p1), .val (.int p2), .val (.int p3), .val (.int s0), .val (.int s1), .val (.int s2), .unset, .unset, .unset, .unset, .unset, .unset, .unset, .unset, .unset, .unset, .unset] [(.int sl)]))
  refine o_ist X0 H at_35 (L' := #[.val (.int p1), .val (.int p2), .val (.int p3), .val (.int s0), .val (.int s1), .val (.int s2), .val (.int sl), .unset, .unset, .unset, .unset, .unset, .unset, .unset, .unset, .unset, .unset]) rfl ?_
  refine o_ildN X0 H at_37 rfl ?_
  refine o_si X0 H at_38 (v := 255) rfl ?_
  refine o_iand X0 H at_41 ?_
  refine own_on (fun tq => XS.i2c X0.here hx rfl (hb hby at_42) rfl) ?_
  show own_Fin p e below _ (s₁.setTop (mkF m 43 #[.val (.int p1), .val (.int p2), .val (.int p3), .val (.int s0), .val (.int s1), .val (.int s2), .val (.int sl), .unset, .unset, .unset, .unset, .unset, .unset, .unset, .unset, .unset, .unset] [(.int ((p2 &&& (255 : Int32)).toUInt32.toUInt16.toUInt32.toInt32))]))
  obtain ⟨k0, hk0⟩ : ∃ q : Int32, q = ((p2 &&& (255 : Int32)).toUInt32.toUInt16.toUInt32.toInt32) := ⟨_, rfl⟩
  have rk0 : ¬ k0 < 0 ∧ ¬ (255 : Int32) < k0 := hk0 ▸ own_c255 _
  rw [← hk0]
  show own_Fin p e below _ (s₁.setTop (mkF m 43 #[.val (.int p1), .val (.int p2), .val (.int p3), .val (.int s0), .val (.int s1), .val (.int s2), .val (.int sl), .unset, .unset, .unset, .unset, .unset, .unset, .unset, .unset, .unset, .unset] [(.int k0)]))
  refine o_ist X0 H at_43 (L' := #[.val (.int p1), .val (.int p2), .val (.int p3), .val (.int s0), .val (.int s1), .val (.int s2), .val (.int sl), .val (.int k0), .unset, .unset, .unset, .unset, .unset, .unset, .unset, .unset, .unset]) rfl ?_
  refine o_ildN X0 H at_45 rfl ?_
  refine o_bi X0 H at_46 (v := 8) rfl ?_
  refine own_on (fun tq => XS.iushr X0.here hx rfl (hb hby at_48) rfl) ?_
  show own_Fin p e below _ (s₁.setTop (mkF m 49 #[.val (.int p1), .val (.int p2), .val (.int p3), .val (.int s0), .val (.int s1), .val (.int s2), .val (.int sl), .val (.int k0), .unset, .unset, .unset, .unset, .unset, .unset, .unset, .unset, .unset] [(.int ((p2.toUInt32 >>> ((8 : Int32) &&& 31).toUInt32).toInt32))]))
  refine o_si X0 H at_49 (v := 255) rfl ?_
  refine o_iand X0 H at_52 ?_
  refine own_on (fun tq => XS.i2c X0.here hx rfl (hb hby at_53) rfl) ?_
  show own_Fin p e below _ (s₁.setTop (mkF m 54 #[.val (.int p1), .val (.int p2), .val (.int p3), .val (.int s0), .val (.int s1), .val (.int s2), .val (.int sl), .val (.int k0), .unset, .unset, .unset, .unset, .unset, .unset, .unset, .unset, .unset] [(.int ((((p2.toUInt32 >>> ((8 : Int32) &&& 31).toUInt32).toInt32) &&& (255 : Int32)).toUInt32.toUInt16.toUInt32.toInt32))]))
  obtain ⟨k1, hk1⟩ : ∃ q : Int32, q = ((((p2.toUInt32 >>> ((8 : Int32) &&& 31).toUInt32).toInt32) &&& (255 : Int32)).toUInt32.toUInt16.toUInt32.toInt32) := ⟨_, rfl⟩
  have rk1 : ¬ k1 < 0 ∧ ¬ (255 : Int32) < k1 := hk1 ▸ own_c255 _
  rw [← hk1]
  show own_Fin p e below _ (s₁.setTop (mkF m 54 #[.val (.int p1), .val (.int p2), .val (.int p3), .val (.int s0), .val (.int s1), .val (.int s2), .val (.int sl), .val (.int k0), .unset, .unset, .unset, .unset, .unset, .unset, .unset, .unset, .unset] [(.int k1)]))
  refine o_ist X0 H at_54 (L' := #[.val (.int p1), .val (.int p2), .val (.int p3), .val (.int s0), .val (.int s1), .val (.int s2), .val (.int sl), .val (.int k0), .val (.int k1), .unset, .unset, .unset, .unset, .unset, .unset, .unset, .unset]) rfl ?_
  refine o_ildN X0 H at_56 rfl ?_
  refine o_bi X0 H at_57 (v := 16) rfl ?_
  refine own_on (fun tq => XS.iushr X0.here hx rfl (hb hby at_59) rfl) ?_
  show own_Fin p e below _ (s₁.setTop (mkF m 60 #[.val (.int p1), .val (.int p2), .val (.int p3), .val (.int s0), .val (.int s1), .val (.int s2), .val (.int sl), .val (.int k0), .val (.int k1), .unset, .unset, .unset, .unset, .unset, .unset, .unset, .unset] [(.int ((p2.toUInt32 >>> ((16 : Int32) &&& 31).toUInt32).toInt32))]))
  refine o_si X0 H at_60 (v := 255) rfl ?_
  refine o_iand X0 H at_63 ?_
  refine own_on (fun tq => XS.i2c X0.here hx rfl (hb hby at_64) rfl) ?_
  show own_Fin p e below _ (s₁.setTop (mkF m 65 #[.val (.int p1), .val (.int p2), .val (.int p3), .val (.int s0), .val (.int s1), .val (.int s2), .val (.int sl), .val (.int k0), .val (.int k1), .unset, .unset, .unset, .unset, .unset, .unset, .unset, .unset] [(.int ((((p2.toUInt32 >>> ((16 : Int32) &&& 31).toUInt32).toInt32) &&& (255 : Int32)).toUInt32.toUInt16.toUInt32.toInt32))]))
  obtain ⟨k2, hk2⟩ : ∃ q : Int32, q = ((((p2.toUInt32 >>> ((16 : Int32) &&& 31).toUInt32).toInt32) &&& (255 : Int32)).toUInt32.toUInt16.toUInt32.toInt32) := ⟨_, rfl⟩
  have rk2 : ¬ k2 < 0 ∧ ¬ (255 : Int32) < k2 := hk2 ▸ own_c255 _
  rw [← hk2]
  show own_Fin p e below _ (s₁.setTop (mkF m 65 #[.val (.int p1), .val (.int p2), .val (.int p3), .val (.int s0), .val (.int s1), .val (.int s2), .val (.int sl), .val (.int k0), .val (.int k1), .unset, .unset, .unset, .unset, .unset, .unset, .unset, .unset] [(.int k2)]))
  refine o_ist X0 H at_65 (L' := #[.val (.int p1), .val (.int p2), .val (.int p3), .val (.int s0), .val (.int s1), .val (.int s2), .val (.int sl), .val (.int k0), .val (.int k1), .val (.int k2), .unset, .unset, .unset, .unset, .unset, .unset, .unset]) rfl ?_
  refine o_ildN X0 H at_67 rfl ?_
  refine o_bi X0 H at_68 (v := 24) rfl ?_
  refine own_on (fun tq => XS.iushr X0.here hx rfl (hb hby at_70) rfl) ?_
  show own_Fin p e below _ (s₁.setTop (mkF m 71 #[.val (.int p1), .val (.int p2), .val (.int p3), .val (.int s0), .val (.int s1), .val (.int s2), .val (.int sl), .val (.int k0), .val (.int k1), .val (.int k2), .unset, .unset, .unset, .unset, .unset, .unset, .unset] [(.int ((p2.toUInt32 >>> ((24 : Int32) &&& 31).toUInt32).toInt32))]))
  refine o_si X0 H at_71 (v := 255) rfl ?_
  refine o_iand X0 H at_74 ?_
  refine own_on (fun tq => XS.i2c X0.here hx rfl (hb hby at_75) rfl) ?_
  show own_Fin p e below _ (s₁.setTop (mkF m 76 #[.val (.int p1), .val (.int p2), .val (.int p3), .val (.int s0), .val (.int s1), .val (.int s2), .val (.int sl), .val (.int k0), .val (.int k1), .val (.int k2), .unset, .unset, .unset, .unset, .unset, .unset, .unset] [(.int ((((p2.toUInt32 >>> ((24 : Int32) &&& 31).toUInt32).toInt32) &&& (255 : Int32)).toUInt32.toUInt16.toUInt32.toInt32))]))
  obtain ⟨k3, hk3⟩ : ∃ q : Int32, q = ((((p2.toUInt32 >>> ((24 : Int32) &&& 31).toUInt32).toInt32) &&& (255 : Int32)).toUInt32.toUInt16.toUInt32.toInt32) := ⟨_, rfl⟩
  have rk3 : ¬ k3 < 0 ∧ ¬ (255 : Int32) < k3 := hk3 ▸ own_c255 _
  rw [← hk3]
  show own_Fin p e below _ (s₁.setTop (mkF m 76 #[.val (.int p1), .val (.int p2), .val (.int p3), .val (.int s0), .val (.int s1), .val (.int s2), .val (.int sl), .val (.int k0), .val (.int k1), .val (.int k2), .unset, .unset, .unset, .unset, .unset, .unset, .unset] [(.int k3)]))
  refine o_ist X0 H at_76 (L' := #[.val (.int p1), .val (.int p2), .val (.int p3), .val (.int s0), .val (.int s1), .val (.int s2), .val (.int sl), .val (.int k0), .val (.int k1), .val (.int k2), .val (.int k3), .unset, .unset, .unset, .unset, .unset, .unset]) rfl ?_
  refine o_ildN X0 H at_78 rfl ?_
  refine o_bi X0 H at_79 (v := 8) rfl ?_
  refine own_on (fun tq => XS.iushr X0.here hx rfl (hb hby at_81) rfl) ?_
  show own_Fin p e below _ (s₁.setTop (mkF m 82 #[.val (.int p1), .val (.int p2), .val (.int p3), .val (.int s0), .val (.int s1), .val (.int s2), .val (.int sl), .val (.int k0), .val (.int k1), .val (.int k2), .val (.int k3), .unset, .unset, .unset, .unset, .unset, .unset] [(.int ((p3.toUInt32 >>> ((8 : Int32) &&& 31).toUInt32).toInt32))]))
  refine o_ic X0 H at_82 (v := 5) rfl ?_
  refine own_on (fun tq => iremM X0 hx rfl (hb hby at_83) rfl (by decide)) ?_
  show own_Fin p e below _ (s₁.setTop (mkF m 84 #[.val (.int p1), .val (.int p2), .val (.int p3), .val (.int s0), .val (.int s1), .val (.int s2), .val (.int sl), .val (.int k0), .val (.int k1), .val (.int k2), .val (.int k3), .unset, .unset, .unset, .unset, .unset, .unset] [(.int (((p3.toUInt32 >>> ((8 : Int32) &&& 31).toUInt32).toInt32) % (5 : Int32)))]))
  obtain ⟨cl, hcl⟩ : ∃ q : Int32, q = (((p3.toUInt32 >>> ((8 : Int32) &&& 31).toUInt32).toInt32) % (5 : Int32)) := ⟨_, rfl⟩
  rw [← hcl]
  show own_Fin p e below _ (s₁.setTop (mkF m 84 #[.val (.int p1), .val (.int p2), .val (.int p3), .val (.int s0), .val (.int s1), .val (.int s2), .val (.int sl), .val (.int k0), .val (.int k1), .val (.int k2), .val (.int k3), .unset, .unset, .unset, .unset, .unset, .unset] [(.int cl)]))
  refine o_ist X0 H at_84 (L' := #[.val (.int p1), .val (.int p2), .val (.int p3), .val (.int s0), .val (.int s1), .val (.int s2), .val (.int sl), .val (.int k0), .val (.int k1), .val (.int k2), .val (.int k3), .val (.int cl), .unset, .unset, .unset, .unset, .unset]) rfl ?_
  have PT : ∀ (lq0 lq1 lq2 lq3 lq4 lq5 lq6 lq7 lq8 lq9 lq10 lq11 lq14 lq15 : Slot) (xq tq yq uq : Addr) (kq kv : ClassId) (aq mq : Nat) (kaq sbq : List Int32) (ex : Int32) (haq : kaq.length = aq) (hmq : sbq.length = mq) (ha4 : aq ≤ 4) (hm3 : mq ≤ 3) (rgx : ∀ q_ ∈ kaq, ¬ q_ < 0 ∧ ¬ (255 : Int32) < q_) (rgy : ∀ q_ ∈ sbq, ¬ q_ < 0 ∧ ¬ (255 : Int32) < q_) (hU : (ex = 1 ∧ own_U kaq sbq) ∨ (ex = 0 ∧ ¬ own_U kaq sbq)), ∀ (Tt : State) (Ht : Heap) (Lot : List Loc) (vmt : Vm) (kkt : Nat) (Xt : Stand p l e room_1 (s.setVm vmt) m #[(.int p1), (.int p2), (.int p3)] below meth cd Tt Lot 14 160) (et : Tt.heap = Ht) (Nt : Fr n0 Lot) (hSt : s.Since vmt kkt) (hZt : Z.Warmed39 (s.setVm vmt).vm) (hownt : (s.setVm vmt).vm.findClass "com/example/covenantry/covenantry/input/LedgerIsUnderPinLaw" = some m.cls) (gt_0 : CHv Z own_EL vmt Ht) (gt_1 : CHr Z own_EL s.vm h0 vmt Ht) (gt_2 : kkt ≤ Ht.size) (gt_3 : n0 ≤ Ht.size) (gt_4 : Old Z n0 Ht) (gt_5 : Exa Z Ht xq "java/lang/String") (gt_6 : Fld Z Ht xq "java/lang/String" "coder" "B" (.int (0 : Int32))) (gt_7 : Fld Z Ht xq "java/lang/String" "value" "[B" (.ref tq)) (gt_8 : Arv Z Ht tq kq .byte (Int32.ofNat aq) ((kaq.map StrChars.lo8).map Value.int) (.int 0)) (gt_9 : Exa Z Ht yq "java/lang/String") (gt_10 : Fld Z Ht yq "java/lang/String" "coder" "B" (.int (0 : Int32))) (gt_11 : Fld Z Ht yq "java/lang/String" "value" "[B" (.ref uq)) (gt_12 : Arv Z Ht uq kv .byte (Int32.ofNat mq) ((sbq.map StrChars.lo8).map Value.int) (.int 0)), own_Fin p e below (own_AnsW s Z own_EL (Q0 Z p1 p2 p3 z h0 n0) room_1.cells room_1.slots) (Tt.setTop (mkF m 331 #[lq0, lq1, lq2, lq3, lq4, lq5, lq6, lq7, lq8, lq9, lq10, lq11, .val (.ref yq), .val (.ref xq), lq14, lq15, .val (.int ex)] [])) := by
    intro lq0 lq1 lq2 lq3 lq4 lq5 lq6 lq7 lq8 lq9 lq10 lq11 lq14 lq15 xq tq yq uq kq kv aq mq kaq sbq ex haq hmq ha4 hm3 rgx rgy hU Tt Ht Lot vmt kkt Xt et Nt hSt hZt hownt gt_0 gt_1 gt_2 gt_3 gt_4 gt_5 gt_6 gt_7 gt_8 gt_9 gt_10 gt_11 gt_12
    show own_Fin p e below _ (Tt.setTop (mkF m 331 #[lq0, lq1, lq2, lq3, lq4, lq5, lq6, lq7, lq8, lq9, lq10, lq11, .val (.ref yq), .val (.ref xq), lq14, lq15, .val (.int ex)] []))
    refine o_ald Xt H at_331 rfl rfl ?_
    refine o_ald Xt H at_333 rfl rfl ?_
    obtain ⟨_, _, ⟨T177, L177, k177, n177⟩, -, X177', S177', gr177, ⟨Lc177, hQ177, l177, y177, z177, A177⟩, st177⟩ := callSS Xt hx (y := (⟨"com/example/covenantry/covenantry/input/Ledger", "isUnder", "(Ljava/lang/String;Ljava/lang/String;)Z"⟩ : MethodName)) hownt (mvT hZt (ow hw 26 rfl)) (mvT hZt (ow hw 27 rfl)) (mvT hZt (ow hw 28 rfl)) (mvT hZt (ow hw 29 rfl)) (by decide) (backOfSH (s := s) (W := 0) (rm5 l Z a0 hw [] xq yq z tq kq aq kaq uq kv mq sbq Ht n0 (by exact gt_3) hEL hz gt_4 SC gt_5 gt_6 gt_7 gt_8 haq gt_9 gt_10 gt_11 gt_12 hmq rgx rgy ha4 hm3) hZt (ow hw 29 rfl) (ow hw 28 rfl) (by decide) (by decide) hEL gt_0) (g := (mkF m 335 #[lq0, lq1, lq2, lq3, lq4, lq5, lq6, lq7, lq8, lq9, lq10, lq11, .val (.ref yq), .val (.ref xq), lq14, lq15, .val (.int ex)] [(.ref yq), (.ref xq)])) rfl hml.symm (argsL := [(.ref xq), (.ref yq)]) (rest := []) (lenOf pd_23 rfl) rfl (o_mr rfl) (hb hby at_335) (fun _ _ => ⟨rfl, et, (by decide : 14 + 6 ≤ _), (by decide : 160 + 40 ≤ _)⟩)
    dsimp only [Pt.U, Pt.locs, Pt.cells, Pt.slots] at X177' S177' gr177 l177 y177 z177 st177 hQ177 A177
    replace l177 := l177.symm; replace y177 := y177.symm; replace z177 := z177.symm; subst l177 y177 z177
    obtain ⟨X177, hS177, hZ177, hown177⟩ := rebS hSt (by first | exact gt_2 | (rw [et]; exact gt_2)) X177' S177' gr177 hZt hownt
    obtain ⟨r177, rfl, N177q, K177, hV177⟩ := hQ177
    have N177 := Fr.app Nt N177q
    refine own_via st177 ?_
    have hex : r177 = ex := by rcases hU with ⟨e1, u1⟩ | ⟨e1, u1⟩ <;> rcases hV177 with ⟨e2, u2⟩ | ⟨e2, u2⟩; (rw [e1, e2]); exact absurd u1 u2; exact absurd u2 u1; (rw [e1, e2])
    rw [hex]
    show own_Fin p e below _ (T177.setTop (mkF m 338 #[lq0, lq1, lq2, lq3, lq4, lq5, lq6, lq7, lq8, lq9, lq10, lq11, .val (.ref yq), .val (.ref xq), lq14, lq15, .val (.int ex)] [(.int ex)]))
    refine o_ild X177 H at_338 rfl ?_
    refine o_icN X177 H at_340 (teq rfl).2 ?_
    refine o_ic X177 H at_343 (v := 1) rfl ?_
    refine o_go X177 H at_344 (pc' := 348) (by decide) (by decide) ?_
    exact own_retW (t := .boolean) X177 (Z := Z) (EL := own_EL) (a0 := a0) hx hlk hret rfl (Or.inl ⟨rfl, (by simp), _, rfl⟩) (hb hby at_348) hS177 (Nat.le_refl (Array.size T177.heap)) hZ177 hEL (by rw [hh]; exact (CHr.trans gt_1 A177)) (⟨rfl, N177⟩) (by decide) (by decide)
  rcases (hsl ▸ own_and3 _ : sl = 0 ∨ sl = 1 ∨ sl = 2 ∨ sl = 3) with hn | hn | hn | hn
  · rw [hn]
    show own_Fin p e below _ (s₁.setTop (mkF m 86 #[.val (.int p1), .val (.int p2), .val (.int p3), .val (.int s0), .val (.int s1), .val (.int s2), .val (.int (0 : Int32)), .val (.int k0), .val (.int k1), .val (.int k2), .val (.int k3), .val (.int cl), .unset, .unset, .unset, .unset, .unset] []))
    refine own_mergeA (B := fun w0 w1 w2 w3 => (s₁.setTop (mkF m 188 #[.val (.int p1), .val (.int p2), .val (.int p3), .val (.int s0), .val (.int s1), .val (.int s2), .val (.int (0 : Int32)), .val (.int w0), .val (.int w1), .val (.int w2), .val (.int w3), .val (.int cl), .unset, .unset, .unset, .unset, .unset] []))) (R := fun w0 w1 w2 w3 => ((¬ w0 < 0 ∧ ¬ (255 : Int32) < w0) ∧ (¬ w1 < 0 ∧ ¬ (255 : Int32) < w1) ∧ (¬ w2 < 0 ∧ ¬ (255 : Int32) < w2) ∧ (¬ w3 < 0 ∧ ¬ (255 : Int32) < w3))) ?_ (fun HM => ?_)
    · intro w0 w1 w2 w3 hR
      obtain ⟨rw0, rw1, rw2, rw3⟩ := hR
      show own_Fin p e below _ (s₁.setTop (mkF m 188 #[.val (.int p1), .val (.int p2), .val (.int p3), .val (.int s0), .val (.int s1), .val (.int s2), .val (.int (0 : Int32)), .val (.int w0), .val (.int w1), .val (.int w2), .val (.int w3), .val (.int cl), .unset, .unset, .unset, .unset, .unset] []))
      refine o_ildN X0 H at_188 rfl ?_
      refine o_ild X0 H at_189 rfl ?_
      refine o_ild X0 H at_191 rfl ?_
      refine o_ild X0 H at_193 rfl ?_
      refine o_ild X0 H at_195 rfl ?_
      obtain ⟨_, _, ⟨T178, L178, k178, n178⟩, -, X178', S178', gr178, ⟨Lc178, hQ178, l178, y178, z178, A178⟩, st178⟩ := callSS X0 hx (y := (⟨"com/example/covenantry/covenantry/input/LedgerIsUnderPinLaw", "mk", "(CCCCI)Ljava/lang/String;"⟩ : MethodName)) hown (mvT hZ (ow hw 0 rfl)) (mvT hZ (ow hw 1 rfl)) (mvT hZ (ow hw 2 rfl)) (mvT hZ (ow hw 3 rfl)) (by decide) (backOfSH (s := s) (W := 0) (rmMk0 l Z a0 hw [] s0 s1 s2 s2 z h0 n0 (by exact Z0) hEL rs0 rs1 rs2 rs2 hz O SC) hZ (ow hw 3 rfl) (ow hw 2 rfl) (by decide) (by decide) hEL CH0) (g := (mkF m 197 #[.val (.int p1), .val (.int p2), .val (.int p3), .val (.int s0), .val (.int s1), .val (.int s2), .val (.int (0 : Int32)), .val (.int w0), .val (.int w1), .val (.int w2), .val (.int w3), .val (.int cl), .unset, .unset, .unset, .unset, .unset] [(.int (0 : Int32)), (.int s2), (.int s2), (.int s1), (.int s0)])) rfl hml.symm (argsL := [(.int s0), (.int s1), (.int s2), (.int s2), (.int (0 : Int32))]) (rest := []) (lenOf pd_24 rfl) rfl (o_mr rfl) (hb hby at_197) (fun _ _ => ⟨rfl, e0, (by decide : 0 + 6 ≤ _), (by decide : 0 + 12 ≤ _)⟩)
      dsimp only [Pt.U, Pt.locs, Pt.cells, Pt.slots] at X178' S178' gr178 l178 y178 z178 st178 hQ178 A178
      replace l178 := l178.symm; replace y178 := y178.symm; replace z178 := z178.symm; subst l178 y178 z178
      obtain ⟨X178, hS178, hZ178, hown178⟩ := rebS hS0 (by first | exact (Nat.zero_le _) | (rw [e0]; exact (Nat.zero_le _))) X178' S178' gr178 hZ hown
      obtain ⟨x178, t178, kt178, rfl, N178q, K178, Eq178, Cq178, Vq178, Aq178⟩ := hQ178
      have N178 := Fr.app N0 N178q
      refine own_via st178 ?_
      show own_Fin p e below _ (T178.setTop (mkF m 200 #[.val (.int p1), .val (.int p2), .val (.int p3), .val (.int s0), .val (.int s1), .val (.int s2), .val (.int (0 : Int32)), .val (.int w0), .val (.int w1), .val (.int w2), .val (.int w3), .val (.int cl), .unset, .unset, .unset, .unset, .unset] [(.ref x178)]))
      refine o_ast X178 H at_200 (L' := #[.val (.int p1), .val (.int p2), .val (.int p3), .val (.int s0), .val (.int s1), .val (.int s2), .val (.int (0 : Int32)), .val (.int w0), .val (.int w1), .val (.int w2), .val (.int w3), .val (.int cl), .val (.ref x178), .unset, .unset, .unset, .unset]) rfl rfl ?_
      rcases (hcl ▸ own_rem5 _ : cl = 0 ∨ cl = 1 ∨ cl = 2 ∨ cl = 3 ∨ cl = 4) with hm | hm | hm | hm | hm
      · rw [hm]
        show own_Fin p e below _ (T178.setTop (mkF m 202 #[.val (.int p1), .val (.int p2), .val (.int p3), .val (.int s0), .val (.int s1), .val (.int s2), .val (.int (0 : Int32)), .val (.int w0), .val (.int w1), .val (.int w2), .val (.int w3), .val (.int (0 : Int32)), .val (.ref x178), .unset, .unset, .unset, .unset] []))
        refine o_ild X178 H at_202 rfl ?_
        refine o_ild X178 H at_204 rfl ?_
        refine o_ild X178 H at_206 rfl ?_
        refine o_ild X178 H at_208 rfl ?_
        refine o_ild X178 H at_210 rfl ?_
        obtain ⟨_, _, ⟨T179, L179, k179, n179⟩, -, X179', S179', gr179, ⟨Lc179, hQ179, l179, y179, z179, A179⟩, st179⟩ := callSS X178 hx (y := (⟨"com/example/covenantry/covenantry/input/LedgerIsUnderPinLaw", "mk", "(CCCCI)Ljava/lang/String;"⟩ : MethodName)) hown178 (mvT hZ178 (ow hw 0 rfl)) (mvT hZ178 (ow hw 1 rfl)) (mvT hZ178 (ow hw 2 rfl)) (mvT hZ178 (ow hw 3 rfl)) (by decide) (backOfSH (s := s) (W := 0) (rmMk0 l Z a0 hw [] w0 w1 w2 w3 z T178.heap n0 (by exact (Nat.le_trans Z0 K178.1)) hEL rw0 rw1 rw2 rw3 hz (O.keep K178 all0) SC) hZ178 (ow hw 3 rfl) (ow hw 2 rfl) (by decide) (by decide) hEL A178.1) (g := (mkF m 212 #[.val (.int p1), .val (.int p2), .val (.int p3), .val (.int s0), .val (.int s1), .val (.int s2), .val (.int (0 : Int32)), .val (.int w0), .val (.int w1), .val (.int w2), .val (.int w3), .val (.int (0 : Int32)), .val (.ref x178), .unset, .unset, .unset, .unset] [(.int (0 : Int32)), (.int w3), (.int w2), (.int w1), (.int w0)])) rfl hml.symm (argsL := [(.int w0), (.int w1), (.int w2), (.int w3), (.int (0 : Int32))]) (rest := []) (lenOf pd_24 rfl) rfl (o_mr rfl) (hb hby at_212) (fun _ _ => ⟨rfl, rfl, (by decide : 6 + 6 ≤ _), (by decide : 12 + 12 ≤ _)⟩)
        dsimp only [Pt.U, Pt.locs, Pt.cells, Pt.slots] at X179' S179' gr179 l179 y179 z179 st179 hQ179 A179
        replace l179 := l179.symm; replace y179 := y179.symm; replace z179 := z179.symm; subst l179 y179 z179
        obtain ⟨X179, hS179, hZ179, hown179⟩ := rebS hS178 (by first | exact (Nat.le_refl (Array.size T178.heap)) | (rw [(rfl : 0 = 0)]; exact (Nat.le_refl (Array.size T178.heap)))) X179' S179' gr179 hZ178 hown178
        obtain ⟨x179, t179, kt179, rfl, N179q, K179, Eq179, Cq179, Vq179, Aq179⟩ := hQ179
        have N179 := Fr.app N178 N179q
        refine own_via st179 ?_
        show own_Fin p e below _ (T179.setTop (mkF m 215 #[.val (.int p1), .val (.int p2), .val (.int p3), .val (.int s0), .val (.int s1), .val (.int s2), .val (.int (0 : Int32)), .val (.int w0), .val (.int w1), .val (.int w2), .val (.int w3), .val (.int (0 : Int32)), .val (.ref x178), .unset, .unset, .unset, .unset] [(.ref x179)]))
        refine o_ast X179 H at_215 (L' := #[.val (.int p1), .val (.int p2), .val (.int p3), .val (.int s0), .val (.int s1), .val (.int s2), .val (.int (0 : Int32)), .val (.int w0), .val (.int w1), .val (.int w2), .val (.int w3), .val (.int (0 : Int32)), .val (.ref x178), .val (.ref x179), .unset, .unset, .unset]) rfl rfl ?_
        refine o_ild X179 H at_217 rfl ?_
        refine o_ic X179 H at_219 (v := 1) rfl ?_
        refine o_icY X179 H at_220 (tlt (by decide : (0 : Int32) < (1 : Int32))).1 (pc' := 229) (by decide) (by decide) ?_
        refine o_ild X179 H at_229 rfl ?_
        refine o_ic X179 H at_231 (v := 2) rfl ?_
        refine o_icY X179 H at_232 (tlt (by decide : (0 : Int32) < (2 : Int32))).1 (pc' := 242) (by decide) (by decide) ?_
        refine o_ild X179 H at_242 rfl ?_
        refine o_ic X179 H at_244 (v := 3) rfl ?_
        refine o_icY X179 H at_245 (tlt (by decide : (0 : Int32) < (3 : Int32))).1 (pc' := 255) (by decide) (by decide) ?_
        refine o_ic X179 H at_255 (v := 1) rfl ?_
        refine o_go X179 H at_256 (pc' := 260) (by decide) (by decide) ?_
        refine o_ist X179 H at_260 (L' := #[.val (.int p1), .val (.int p2), .val (.int p3), .val (.int s0), .val (.int s1), .val (.int s2), .val (.int (0 : Int32)), .val (.int w0), .val (.int w1), .val (.int w2), .val (.int w3), .val (.int (0 : Int32)), .val (.ref x178), .val (.ref x179), .val (.int (1 : Int32)), .unset, .unset]) rfl ?_
        refine o_ild X179 H at_262 rfl ?_
        refine o_ifN X179 H at_264 ((if0 _ _).trans (teq (by decide : (0 : Int32) = (0 : Int32))).2) ?_
        refine o_ild X179 H at_267 rfl ?_
        refine o_go X179 H at_269 (pc' := 296) (by decide) (by decide) ?_
        refine o_ist X179 H at_296 (L' := #[.val (.int p1), .val (.int p2), .val (.int p3), .val (.int s0), .val (.int s1), .val (.int s2), .val (.int (0 : Int32)), .val (.int w0), .val (.int w1), .val (.int w2), .val (.int w3), .val (.int (0 : Int32)), .val (.ref x178), .val (.ref x179), .val (.int (1 : Int32)), .val (.int w0), .unset]) rfl ?_
        refine o_ild X179 H at_298 rfl ?_
        refine o_ild X179 H at_300 rfl ?_
        refine o_icN X179 H at_302 (flt (by decide : ¬ ((0 : Int32) < (0 : Int32)))).1 ?_
        refine o_ild X179 H at_305 rfl ?_
        refine o_ifN X179 H at_307 ((if0 _ _).trans (feq (by decide : ¬ ((1 : Int32) = (0 : Int32)))).1) ?_
        refine o_ild X179 H at_310 rfl ?_
        refine o_ild X179 H at_312 rfl ?_
        refine o_icY X179 H at_314 (teq (by decide : (0 : Int32) = (0 : Int32))).1 (pc' := 324) (by decide) (by decide) ?_
        refine o_ic X179 H at_324 (v := 1) rfl ?_
        refine o_go X179 H at_325 (pc' := 329) (by decide) (by decide) ?_
        refine o_ist X179 H at_329 (L' := #[.val (.int p1), .val (.int p2), .val (.int p3), .val (.int s0), .val (.int s1), .val (.int s2), .val (.int (0 : Int32)), .val (.int w0), .val (.int w1), .val (.int w2), .val (.int w3), .val (.int (0 : Int32)), .val (.ref x178), .val (.ref x179), .val (.int (1 : Int32)), .val (.int w0), .val (.int (1 : Int32))]) rfl ?_
        exact PT _ _ _ _ _ _ _ _ _ _ _ _ _ _ x179 t179 x178 t178 kt179 kt178 0 0 ([] : List Int32) ([] : List Int32) _ rfl rfl (by decide) (by decide) (fun _ q => nomatch q) (fun _ q => nomatch q) (Or.inl ⟨rfl, own_U_0_0.mpr trivial⟩) T179 _ _ _ _ (X179.more (by decide) (by decide)) rfl N179 hS179 hZ179 hown179 A179.1 (CHr.trans (CHr.trans (CHr.refl CH0) A178) A179) (Nat.le_refl (Array.size T179.heap)) (Nat.le_trans (Nat.le_trans Z0 K178.1) K179.1) ((O.keep K178 all0).keep K179 all0) Eq179 Cq179 Vq179 Aq179 (Eq178.keep K179) (Cq178.keep K179 nin0) (Vq178.keep K179 nin0) (Aq178.keep K179 nin0)
      · rw [hm]
        show own_Fin p e below _ (T178.setTop (mkF m 202 #[.val (.int p1), .val (.int p2), .val (.int p3), .val (.int s0), .val (.int s1), .val (.int s2), .val (.int (0 : Int32)), .val (.int w0), .val (.int w1), .val (.int w2), .val (.int w3), .val (.int (1 : Int32)), .val (.ref x178), .unset, .unset, .unset, .unset] []))
        refine o_ild X178 H at_202 rfl ?_
        refine o_ild X178 H at_204 rfl ?_
        refine o_ild X178 H at_206 rfl ?_
        refine o_ild X178 H at_208 rfl ?_
        refine o_ild X178 H at_210 rfl ?_
        refine o_tc (argsL := [(.int w0), (.int w1), (.int w2), (.int w3), (.int (1 : Int32))]) (rest := []) X178 H hml hZ178 hown178 (ow hw 0 rfl) (ow hw 1 rfl) (ow hw 2 rfl) (ow hw 3 rfl) (backOf (W := 0) (rmMk1 l Z a0 hw [] w0 w1 w2 w3 z T178.heap n0 (by exact (Nat.le_trans Z0 K178.1)) rw0 rw1 rw2 rw3 hz (O.keep K178 all0) SC) hZ178 (ow hw 3 rfl) (ow hw 2 rfl) (by decide) (by decide)) (by decide) rfl pd_24 at_212 rfl rfl rfl rfl rfl (by decide) (by decide) fun _ T180 Lc180 X180 hQ180 => ?_
        obtain ⟨x180, t180, kt180, rfl, N180q, K180, Eq180, Cq180, Vq180, Aq180⟩ := hQ180
        have N180 := Fr.app N178 N180q
        show own_Fin p e below _ (T180.setTop (mkF m 215 #[.val (.int p1), .val (.int p2), .val (.int p3), .val (.int s0), .val (.int s1), .val (.int s2), .val (.int (0 : Int32)), .val (.int w0), .val (.int w1), .val (.int w2), .val (.int w3), .val (.int (1 : Int32)), .val (.ref x178), .unset, .unset, .unset, .unset] [(.ref x180)]))
        refine o_ast X180 H at_215 (L' := #[.val (.int p1), .val (.int p2), .val (.int p3), .val (.int s0), .val (.int s1), .val (.int s2), .val (.int (0 : Int32)), .val (.int w0), .val (.int w1), .val (.int w2), .val (.int w3), .val (.int (1 : Int32)), .val (.ref x178), .val (.ref x180), .unset, .unset, .unset]) rfl rfl ?_
        refine o_ild X180 H at_217 rfl ?_
        refine o_ic X180 H at_219 (v := 1) rfl ?_
        refine o_icY X180 H at_220 (tlt (by decide : (0 : Int32) < (1 : Int32))).1 (pc' := 229) (by decide) (by decide) ?_
        refine o_ild X180 H at_229 rfl ?_
        refine o_ic X180 H at_231 (v := 2) rfl ?_
        refine o_icY X180 H at_232 (tlt (by decide : (0 : Int32) < (2 : Int32))).1 (pc' := 242) (by decide) (by decide) ?_
        refine o_ild X180 H at_242 rfl ?_
        refine o_ic X180 H at_244 (v := 3) rfl ?_
        refine o_icY X180 H at_245 (tlt (by decide : (0 : Int32) < (3 : Int32))).1 (pc' := 255) (by decide) (by decide) ?_
        refine o_ic X180 H at_255 (v := 1) rfl ?_
        refine o_go X180 H at_256 (pc' := 260) (by decide) (by decide) ?_
        refine o_ist X180 H at_260 (L' := #[.val (.int p1), .val (.int p2), .val (.int p3), .val (.int s0), .val (.int s1), .val (.int s2), .val (.int (0 : Int32)), .val (.int w0), .val (.int w1), .val (.int w2), .val (.int w3), .val (.int (1 : Int32)), .val (.ref x178), .val (.ref x180), .val (.int (1 : Int32)), .unset, .unset]) rfl ?_
        refine o_ild X180 H at_262 rfl ?_
        refine o_ifN X180 H at_264 ((if0 _ _).trans (teq (by decide : (0 : Int32) = (0 : Int32))).2) ?_
        refine o_ild X180 H at_267 rfl ?_
        refine o_go X180 H at_269 (pc' := 296) (by decide) (by decide) ?_
        refine o_ist X180 H at_296 (L' := #[.val (.int p1), .val (.int p2), .val (.int p3), .val (.int s0), .val (.int s1), .val (.int s2), .val (.int (0 : Int32)), .val (.int w0), .val (.int w1), .val (.int w2), .val (.int w3), .val (.int (1 : Int32)), .val (.ref x178), .val (.ref x180), .val (.int (1 : Int32)), .val (.int w0), .unset]) rfl ?_
        refine o_ild X180 H at_298 rfl ?_
        refine o_ild X180 H at_300 rfl ?_
        refine o_icN X180 H at_302 (flt (by decide : ¬ ((1 : Int32) < (0 : Int32)))).1 ?_
        refine o_ild X180 H at_305 rfl ?_
        refine o_ifN X180 H at_307 ((if0 _ _).trans (feq (by decide : ¬ ((1 : Int32) = (0 : Int32)))).1) ?_
        refine o_ild X180 H at_310 rfl ?_
        refine o_ild X180 H at_312 rfl ?_
        refine o_icN X180 H at_314 (feq (by decide : ¬ ((1 : Int32) = (0 : Int32)))).1 ?_
        refine o_ild X180 H at_317 rfl ?_
        refine o_bi X180 H at_319 (v := 40) rfl ?_
        by_cases hc181 : w0 = (40 : Int32)
        · refine o_icN X180 H at_321 (teq hc181).2 ?_
          refine o_ic X180 H at_324 (v := 1) rfl ?_
          refine o_go X180 H at_325 (pc' := 329) (by decide) (by decide) ?_
          refine o_ist X180 H at_329 (L' := #[.val (.int p1), .val (.int p2), .val (.int p3), .val (.int s0), .val (.int s1), .val (.int s2), .val (.int (0 : Int32)), .val (.int w0), .val (.int w1), .val (.int w2), .val (.int w3), .val (.int (1 : Int32)), .val (.ref x178), .val (.ref x180), .val (.int (1 : Int32)), .val (.int w0), .val (.int (1 : Int32))]) rfl ?_
          exact PT _ _ _ _ _ _ _ _ _ _ _ _ _ _ x180 t180 x178 t178 kt180 kt178 1 0 [w0] ([] : List Int32) _ rfl rfl (by decide) (by decide) (List.forall_mem_cons.mpr ⟨rw0, fun _ q => nomatch q⟩) (fun _ q => nomatch q) (Or.inl ⟨rfl, (own_U_1_0 w0).mpr hc181⟩) T180 _ _ _ _ (X180.more (by decide) (by decide)) rfl N180 hS178 hZ178 hown178 (CHv.keep K180 sf0 A178.1) (CHr.trans (CHr.trans (CHr.refl CH0) A178) (CHr.keep K180 sf0 A178.1)) (Nat.le_trans (Nat.le_refl (Array.size T178.heap)) K180.1) (Nat.le_trans (Nat.le_trans Z0 K178.1) K180.1) ((O.keep K178 all0).keep K180 all0) Eq180 Cq180 Vq180 Aq180 (Eq178.keep K180) (Cq178.keep K180 nin0) (Vq178.keep K180 nin0) (Aq178.keep K180 nin0)
        · refine o_icY X180 H at_321 (feq hc181).2 (pc' := 328) (by decide) (by decide) ?_
          refine o_ic X180 H at_328 (v := 0) rfl ?_
          refine o_ist X180 H at_329 (L' := #[.val (.int p1), .val (.int p2), .val (.int p3), .val (.int s0), .val (.int s1), .val (.int s2), .val (.int (0 : Int32)), .val (.int w0), .val (.int w1), .val (.int w2), .val (.int w3), .val (.int (1 : Int32)), .val (.ref x178), .val (.ref x180), .val (.int (1 : Int32)), .val (.int w0), .val (.int (0 : Int32))]) rfl ?_
          exact PT _ _ _ _ _ _ _ _ _ _ _ _ _ _ x180 t180 x178 t178 kt180 kt178 1 0 [w0] ([] : List Int32) _ rfl rfl (by decide) (by decide) (List.forall_mem_cons.mpr ⟨rw0, fun _ q => nomatch q⟩) (fun _ q => nomatch q) (Or.inr ⟨rfl, fun u => absurd (((own_U_1_0 w0).mp u)) hc181⟩) T180 _ _ _ _ (X180.more (by decide) (by decide)) rfl N180 hS178 hZ178 hown178 (CHv.keep K180 sf0 A178.1) (CHr.trans (CHr.trans (CHr.refl CH0) A178) (CHr.keep K180 sf0 A178.1)) (Nat.le_trans (Nat.le_refl (Array.size T178.heap)) K180.1) (Nat.le_trans (Nat.le_trans Z0 K178.1) K180.1) ((O.keep K178 all0).keep K180 all0) Eq180 Cq180 Vq180 Aq180 (Eq178.keep K180) (Cq178.keep K180 nin0) (Vq178.keep K180 nin0) (Aq178.keep K180 nin0)
      · rw [hm]
        show own_Fin p e below _ (T178.setTop (mkF m 202 #[.val (.int p1), .val (.int p2), .val (.int p3), .val (.int s0), .val (.int s1), .val (.int s2), .val (.int (0 : Int32)), .val (.int w0), .val (.int w1), .val (.int w2), .val (.int w3), .val (.int (2 : Int32)), .val (.ref x178), .unset, .unset, .unset, .unset] []))
        refine o_ild X178 H at_202 rfl ?_
        refine o_ild X178 H at_204 rfl ?_
        refine o_ild X178 H at_206 rfl ?_
        refine o_ild X178 H at_208 rfl ?_
        refine o_ild X178 H at_210 rfl ?_
        refine o_tc (argsL := [(.int w0), (.int w1), (.int w2), (.int w3), (.int (2 : Int32))]) (rest := []) X178 H hml hZ178 hown178 (ow hw 0 rfl) (ow hw 1 rfl) (ow hw 2 rfl) (ow hw 3 rfl) (backOf (W := 0) (rmMk2 l Z a0 hw [] w0 w1 w2 w3 z T178.heap n0 (by exact (Nat.le_trans Z0 K178.1)) rw0 rw1 rw2 rw3 hz (O.keep K178 all0) SC) hZ178 (ow hw 3 rfl) (ow hw 2 rfl) (by decide) (by decide)) (by decide) rfl pd_24 at_212 rfl rfl rfl rfl rfl (by decide) (by decide) fun _ T182 Lc182 X182 hQ182 => ?_
        obtain ⟨x182, t182, kt182, rfl, N182q, K182, Eq182, Cq182, Vq182, Aq182⟩ := hQ182
        have N182 := Fr.app N178 N182q
        show own_Fin p e below _ (T182.setTop (mkF m 215 #[.val (.int p1), .val (.int p2), .val (.int p3), .val (.int s0), .val (.int s1), .val (.int s2), .val (.int (0 : Int32)), .val (.int w0), .val (.int w1), .val (.int w2), .val (.int w3), .val (.int (2 : Int32)), .val (.ref x178), .unset, .unset, .unset, .unset] [(.ref x182)]))
        refine o_ast X182 H at_215 (L' := #[.val (.int p1), .val (.int p2), .val (.int p3), .val (.int s0), .val (.int s1), .val (.int s2), .val (.int (0 : Int32)), .val (.int w0), .val (.int w1), .val (.int w2), .val (.int w3), .val (.int (2 : Int32)), .val (.ref x178), .val (.ref x182), .unset, .unset, .unset]) rfl rfl ?_
        refine o_ild X182 H at_217 rfl ?_
        refine o_ic X182 H at_219 (v := 1) rfl ?_
        refine o_icY X182 H at_220 (tlt (by decide : (0 : Int32) < (1 : Int32))).1 (pc' := 229) (by decide) (by decide) ?_
        refine o_ild X182 H at_229 rfl ?_
        refine o_ic X182 H at_231 (v := 2) rfl ?_
        refine o_icY X182 H at_232 (tlt (by decide : (0 : Int32) < (2 : Int32))).1 (pc' := 242) (by decide) (by decide) ?_
        refine o_ild X182 H at_242 rfl ?_
        refine o_ic X182 H at_244 (v := 3) rfl ?_
        refine o_icY X182 H at_245 (tlt (by decide : (0 : Int32) < (3 : Int32))).1 (pc' := 255) (by decide) (by decide) ?_
        refine o_ic X182 H at_255 (v := 1) rfl ?_
        refine o_go X182 H at_256 (pc' := 260) (by decide) (by decide) ?_
        refine o_ist X182 H at_260 (L' := #[.val (.int p1), .val (.int p2), .val (.int p3), .val (.int s0), .val (.int s1), .val (.int s2), .val (.int (0 : Int32)), .val (.int w0), .val (.int w1), .val (.int w2), .val (.int w3), .val (.int (2 : Int32)), .val (.ref x178), .val (.ref x182), .val (.int (1 : Int32)), .unset, .unset]) rfl ?_
        refine o_ild X182 H at_262 rfl ?_
        refine o_ifN X182 H at_264 ((if0 _ _).trans (teq (by decide : (0 : Int32) = (0 : Int32))).2) ?_
        refine o_ild X182 H at_267 rfl ?_
        refine o_go X182 H at_269 (pc' := 296) (by decide) (by decide) ?_
        refine o_ist X182 H at_296 (L' := #[.val (.int p1), .val (.int p2), .val (.int p3), .val (.int s0), .val (.int s1), .val (.int s2), .val (.int (0 : Int32)), .val (.int w0), .val (.int w1), .val (.int w2), .val (.int w3), .val (.int (2 : Int32)), .val (.ref x178), .val (.ref x182), .val (.int (1 : Int32)), .val (.int w0), .unset]) rfl ?_
        refine o_ild X182 H at_298 rfl ?_
        refine o_ild X182 H at_300 rfl ?_
        refine o_icN X182 H at_302 (flt (by decide : ¬ ((2 : Int32) < (0 : Int32)))).1 ?_
        refine o_ild X182 H at_305 rfl ?_
        refine o_ifN X182 H at_307 ((if0 _ _).trans (feq (by decide : ¬ ((1 : Int32) = (0 : Int32)))).1) ?_
        refine o_ild X182 H at_310 rfl ?_
        refine o_ild X182 H at_312 rfl ?_
        refine o_icN X182 H at_314 (feq (by decide : ¬ ((2 : Int32) = (0 : Int32)))).1 ?_
        refine o_ild X182 H at_317 rfl ?_
        refine o_bi X182 H at_319 (v := 40) rfl ?_
        by_cases hc183 : w0 = (40 : Int32)
        · refine o_icN X182 H at_321 (teq hc183).2 ?_
          refine o_ic X182 H at_324 (v := 1) rfl ?_
          refine o_go X182 H at_325 (pc' := 329) (by decide) (by decide) ?_
          refine o_ist X182 H at_329 (L' := #[.val (.int p1), .val (.int p2), .val (.int p3), .val (.int s0), .val (.int s1), .val (.int s2), .val (.int (0 : Int32)), .val (.int w0), .val (.int w1), .val (.int w2), .val (.int w3), .val (.int (2 : Int32)), .val (.ref x178), .val (.ref x182), .val (.int (1 : Int32)), .val (.int w0), .val (.int (1 : Int32))]) rfl ?_
          exact PT _ _ _ _ _ _ _ _ _ _ _ _ _ _ x182 t182 x178 t178 kt182 kt178 2 0 [w0, w1] ([] : List Int32) _ rfl rfl (by decide) (by decide) (List.forall_mem_cons.mpr ⟨rw0, List.forall_mem_cons.mpr ⟨rw1, fun _ q => nomatch q⟩⟩) (fun _ q => nomatch q) (Or.inl ⟨rfl, (own_U_2_0 w0 w1).mpr hc183⟩) T182 _ _ _ _ (X182.more (by decide) (by decide)) rfl N182 hS178 hZ178 hown178 (CHv.keep K182 sf0 A178.1) (CHr.trans (CHr.trans (CHr.refl CH0) A178) (CHr.keep K182 sf0 A178.1)) (Nat.le_trans (Nat.le_refl (Array.size T178.heap)) K182.1) (Nat.le_trans (Nat.le_trans Z0 K178.1) K182.1) ((O.keep K178 all0).keep K182 all0) Eq182 Cq182 Vq182 Aq182 (Eq178.keep K182) (Cq178.keep K182 nin0) (Vq178.keep K182 nin0) (Aq178.keep K182 nin0)
        · refine o_icY X182 H at_321 (feq hc183).2 (pc' := 328) (by decide) (by decide) ?_
          refine o_ic X182 H at_328 (v := 0) rfl ?_
          refine o_ist X182 H at_329 (L' := #[.val (.int p1), .val (.int p2), .val (.int p3), .val (.int s0), .val (.int s1), .val (.int s2), .val (.int (0 : Int32)), .val (.int w0), .val (.int w1), .val (.int w2), .val (.int w3), .val (.int (2 : Int32)), .val (.ref x178), .val (.ref x182), .val (.int (1 : Int32)), .val (.int w0), .val (.int (0 : Int32))]) rfl ?_
          exact PT _ _ _ _ _ _ _ _ _ _ _ _ _ _ x182 t182 x178 t178 kt182 kt178 2 0 [w0, w1] ([] : List Int32) _ rfl rfl (by decide) (by decide) (List.forall_mem_cons.mpr ⟨rw0, List.forall_mem_cons.mpr ⟨rw1, fun _ q => nomatch q⟩⟩) (fun _ q => nomatch q) (Or.inr ⟨rfl, fun u => absurd (((own_U_2_0 w0 w1).mp u)) hc183⟩) T182 _ _ _ _ (X182.more (by decide) (by decide)) rfl N182 hS178 hZ178 hown178 (CHv.keep K182 sf0 A178.1) (CHr.trans (CHr.trans (CHr.refl CH0) A178) (CHr.keep K182 sf0 A178.1)) (Nat.le_trans (Nat.le_refl (Array.size T178.heap)) K182.1) (Nat.le_trans (Nat.le_trans Z0 K178.1) K182.1) ((O.keep K178 all0).keep K182 all0) Eq182 Cq182 Vq182 Aq182 (Eq178.keep K182) (Cq178.keep K182 nin0) (Vq178.keep K182 nin0) (Aq178.keep K182 nin0)
      · rw [hm]
        show own_Fin p e below _ (T178.setTop (mkF m 202 #[.val (.int p1), .val (.int p2), .val (.int p3), .val (.int s0), .val (.int s1), .val (.int s2), .val (.int (0 : Int32)), .val (.int w0), .val (.int w1), .val (.int w2), .val (.int w3), .val (.int (3 : Int32)), .val (.ref x178), .unset, .unset, .unset, .unset] []))
        refine o_ild X178 H at_202 rfl ?_
        refine o_ild X178 H at_204 rfl ?_
        refine o_ild X178 H at_206 rfl ?_
        refine o_ild X178 H at_208 rfl ?_
        refine o_ild X178 H at_210 rfl ?_
        refine o_tc (argsL := [(.int w0), (.int w1), (.int w2), (.int w3), (.int (3 : Int32))]) (rest := []) X178 H hml hZ178 hown178 (ow hw 0 rfl) (ow hw 1 rfl) (ow hw 2 rfl) (ow hw 3 rfl) (backOf (W := 0) (rmMk3 l Z a0 hw [] w0 w1 w2 w3 z T178.heap n0 (by exact (Nat.le_trans Z0 K178.1)) rw0 rw1 rw2 rw3 hz (O.keep K178 all0) SC) hZ178 (ow hw 3 rfl) (ow hw 2 rfl) (by decide) (by decide)) (by decide) rfl pd_24 at_212 rfl rfl rfl rfl rfl (by decide) (by decide) fun _ T184 Lc184 X184 hQ184 => ?_
        obtain ⟨x184, t184, kt184, rfl, N184q, K184, Eq184, Cq184, Vq184, Aq184⟩ := hQ184
        have N184 := Fr.app N178 N184q
        show own_Fin p e below _ (T184.setTop (mkF m 215 #[.val (.int p1), .val (.int p2), .val (.int p3), .val (.int s0), .val (.int s1), .val (.int s2), .val (.int (0 : Int32)), .val (.int w0), .val (.int w1), .val (.int w2), .val (.int w3), .val (.int (3 : Int32)), .val (.ref x178), .unset, .unset, .unset, .unset] [(.ref x184)]))
        refine o_ast X184 H at_215 (L' := #[.val (.int p1), .val (.int p2), .val (.int p3), .val (.int s0), .val (.int s1), .val (.int s2), .val (.int (0 : Int32)), .val (.int w0), .val (.int w1), .val (.int w2), .val (.int w3), .val (.int (3 : Int32)), .val (.ref x178), .val (.ref x184), .unset, .unset, .unset]) rfl rfl ?_
        refine o_ild X184 H at_217 rfl ?_
        refine o_ic X184 H at_219 (v := 1) rfl ?_
        refine o_icY X184 H at_220 (tlt (by decide : (0 : Int32) < (1 : Int32))).1 (pc' := 229) (by decide) (by decide) ?_
        refine o_ild X184 H at_229 rfl ?_
        refine o_ic X184 H at_231 (v := 2) rfl ?_
        refine o_icY X184 H at_232 (tlt (by decide : (0 : Int32) < (2 : Int32))).1 (pc' := 242) (by decide) (by decide) ?_
        refine o_ild X184 H at_242 rfl ?_
        refine o_ic X184 H at_244 (v := 3) rfl ?_
        refine o_icY X184 H at_245 (tlt (by decide : (0 : Int32) < (3 : Int32))).1 (pc' := 255) (by decide) (by decide) ?_
        refine o_ic X184 H at_255 (v := 1) rfl ?_
        refine o_go X184 H at_256 (pc' := 260) (by decide) (by decide) ?_
        refine o_ist X184 H at_260 (L' := #[.val (.int p1), .val (.int p2), .val (.int p3), .val (.int s0), .val (.int s1), .val (.int s2), .val (.int (0 : Int32)), .val (.int w0), .val (.int w1), .val (.int w2), .val (.int w3), .val (.int (3 : Int32)), .val (.ref x178), .val (.ref x184), .val (.int (1 : Int32)), .unset, .unset]) rfl ?_
        refine o_ild X184 H at_262 rfl ?_
        refine o_ifN X184 H at_264 ((if0 _ _).trans (teq (by decide : (0 : Int32) = (0 : Int32))).2) ?_
        refine o_ild X184 H at_267 rfl ?_
        refine o_go X184 H at_269 (pc' := 296) (by decide) (by decide) ?_
        refine o_ist X184 H at_296 (L' := #[.val (.int p1), .val (.int p2), .val (.int p3), .val (.int s0), .val (.int s1), .val (.int s2), .val (.int (0 : Int32)), .val (.int w0), .val (.int w1), .val (.int w2), .val (.int w3), .val (.int (3 : Int32)), .val (.ref x178), .val (.ref x184), .val (.int (1 : Int32)), .val (.int w0), .unset]) rfl ?_
        refine o_ild X184 H at_298 rfl ?_
        refine o_ild X184 H at_300 rfl ?_
        refine o_icN X184 H at_302 (flt (by decide : ¬ ((3 : Int32) < (0 : Int32)))).1 ?_
        refine o_ild X184 H at_305 rfl ?_
        refine o_ifN X184 H at_307 ((if0 _ _).trans (feq (by decide : ¬ ((1 : Int32) = (0 : Int32)))).1) ?_
        refine o_ild X184 H at_310 rfl ?_
        refine o_ild X184 H at_312 rfl ?_
        refine o_icN X184 H at_314 (feq (by decide : ¬ ((3 : Int32) = (0 : Int32)))).1 ?_
        refine o_ild X184 H at_317 rfl ?_
        refine o_bi X184 H at_319 (v := 40) rfl ?_
        by_cases hc185 : w0 = (40 : Int32)
        · refine o_icN X184 H at_321 (teq hc185).2 ?_
          refine o_ic X184 H at_324 (v := 1) rfl ?_
          refine o_go X184 H at_325 (pc' := 329) (by decide) (by decide) ?_
          refine o_ist X184 H at_329 (L' := #[.val (.int p1), .val (.int p2), .val (.int p3), .val (.int s0), .val (.int s1), .val (.int s2), .val (.int (0 : Int32)), .val (.int w0), .val (.int w1), .val (.int w2), .val (.int w3), .val (.int (3 : Int32)), .val (.ref x178), .val (.ref x184), .val (.int (1 : Int32)), .val (.int w0), .val (.int (1 : Int32))]) rfl ?_
          exact PT _ _ _ _ _ _ _ _ _ _ _ _ _ _ x184 t184 x178 t178 kt184 kt178 3 0 [w0, w1, w2] ([] : List Int32) _ rfl rfl (by decide) (by decide) (List.forall_mem_cons.mpr ⟨rw0, List.forall_mem_cons.mpr ⟨rw1, List.forall_mem_cons.mpr ⟨rw2, fun _ q => nomatch q⟩⟩⟩) (fun _ q => nomatch q) (Or.inl ⟨rfl, (own_U_3_0 w0 w1 w2).mpr hc185⟩) T184 _ _ _ _ (X184.more (by decide) (by decide)) rfl N184 hS178 hZ178 hown178 (CHv.keep K184 sf0 A178.1) (CHr.trans (CHr.trans (CHr.refl CH0) A178) (CHr.keep K184 sf0 A178.1)) (Nat.le_trans (Nat.le_refl (Array.size T178.heap)) K184.1) (Nat.le_trans (Nat.le_trans Z0 K178.1) K184.1) ((O.keep K178 all0).keep K184 all0) Eq184 Cq184 Vq184 Aq184 (Eq178.keep K184) (Cq178.keep K184 nin0) (Vq178.keep K184 nin0) (Aq178.keep K184 nin0)
        · refine o_icY X184 H at_321 (feq hc185).2 (pc' := 328) (by decide) (by decide) ?_
          refine o_ic X184 H at_328 (v := 0) rfl ?_
          refine o_ist X184 H at_329 (L' := #[.val (.int p1), .val (.int p2), .val (.int p3), .val (.int s0), .val (.int s1), .val (.int s2), .val (.int (0 : Int32)), .val (.int w0), .val (.int w1), .val (.int w2), .val (.int w3), .val (.int (3 : Int32)), .val (.ref x178), .val (.ref x184), .val (.int (1 : Int32)), .val (.int w0), .val (.int (0 : Int32))]) rfl ?_
          exact PT _ _ _ _ _ _ _ _ _ _ _ _ _ _ x184 t184 x178 t178 kt184 kt178 3 0 [w0, w1, w2] ([] : List Int32) _ rfl rfl (by decide) (by decide) (List.forall_mem_cons.mpr ⟨rw0, List.forall_mem_cons.mpr ⟨rw1, List.forall_mem_cons.mpr ⟨rw2, fun _ q => nomatch q⟩⟩⟩) (fun _ q => nomatch q) (Or.inr ⟨rfl, fun u => absurd (((own_U_3_0 w0 w1 w2).mp u)) hc185⟩) T184 _ _ _ _ (X184.more (by decide) (by decide)) rfl N184 hS178 hZ178 hown178 (CHv.keep K184 sf0 A178.1) (CHr.trans (CHr.trans (CHr.refl CH0) A178) (CHr.keep K184 sf0 A178.1)) (Nat.le_trans (Nat.le_refl (Array.size T178.heap)) K184.1) (Nat.le_trans (Nat.le_trans Z0 K178.1) K184.1) ((O.keep K178 all0).keep K184 all0) Eq184 Cq184 Vq184 Aq184 (Eq178.keep K184) (Cq178.keep K184 nin0) (Vq178.keep K184 nin0) (Aq178.keep K184 nin0)
      · rw [hm]
        show own_Fin p e below _ (T178.setTop (mkF m 202 #[.val (.int p1), .val (.int p2), .val (.int p3), .val (.int s0), .val (.int s1), .val (.int s2), .val (.int (0 : Int32)), .val (.int w0), .val (.int w1), .val (.int w2), .val (.int w3), .val (.int (4 : Int32)), .val (.ref x178), .unset, .unset, .unset, .unset] []))
        refine o_ild X178 H at_202 rfl ?_
        refine o_ild X178 H at_204 rfl ?_
        refine o_ild X178 H at_206 rfl ?_
        refine o_ild X178 H at_208 rfl ?_
        refine o_ild X178 H at_210 rfl ?_
        refine o_tc (argsL := [(.int w0), (.int w1), (.int w2), (.int w3), (.int (4 : Int32))]) (rest := []) X178 H hml hZ178 hown178 (ow hw 0 rfl) (ow hw 1 rfl) (ow hw 2 rfl) (ow hw 3 rfl) (backOf (W := 0) (rmMk4 l Z a0 hw [] w0 w1 w2 w3 z T178.heap n0 (by exact (Nat.le_trans Z0 K178.1)) rw0 rw1 rw2 rw3 hz (O.keep K178 all0) SC) hZ178 (ow hw 3 rfl) (ow hw 2 rfl) (by decide) (by decide)) (by decide) rfl pd_24 at_212 rfl rfl rfl rfl rfl (by decide) (by decide) fun _ T186 Lc186 X186 hQ186 => ?_
        obtain ⟨x186, t186, kt186, rfl, N186q, K186, Eq186, Cq186, Vq186, Aq186⟩ := hQ186
        have N186 := Fr.app N178 N186q
        show own_Fin p e below _ (T186.setTop (mkF m 215 #[.val (.int p1), .val (.int p2), .val (.int p3), .val (.int s0), .val (.int s1), .val (.int s2), .val (.int (0 : Int32)), .val (.int w0), .val (.int w1), .val (.int w2), .val (.int w3), .val (.int (4 : Int32)), .val (.ref x178), .unset, .unset, .unset, .unset] [(.ref x186)]))
        refine o_ast X186 H at_215 (L' := #[.val (.int p1), .val (.int p2), .val (.int p3), .val (.int s0), .val (.int s1), .val (.int s2), .val (.int (0 : Int32)), .val (.int w0), .val (.int w1), .val (.int w2), .val (.int w3), .val (.int (4 : Int32)), .val (.ref x178), .val (.ref x186), .unset, .unset, .unset]) rfl rfl ?_
        refine o_ild X186 H at_217 rfl ?_
        refine o_ic X186 H at_219 (v := 1) rfl ?_
        refine o_icY X186 H at_220 (tlt (by decide : (0 : Int32) < (1 : Int32))).1 (pc' := 229) (by decide) (by decide) ?_
        refine o_ild X186 H at_229 rfl ?_
        refine o_ic X186 H at_231 (v := 2) rfl ?_
        refine o_icY X186 H at_232 (tlt (by decide : (0 : Int32) < (2 : Int32))).1 (pc' := 242) (by decide) (by decide) ?_
        refine o_ild X186 H at_242 rfl ?_
        refine o_ic X186 H at_244 (v := 3) rfl ?_
        refine o_icY X186 H at_245 (tlt (by decide : (0 : Int32) < (3 : Int32))).1 (pc' := 255) (by decide) (by decide) ?_
        refine o_ic X186 H at_255 (v := 1) rfl ?_
        refine o_go X186 H at_256 (pc' := 260) (by decide) (by decide) ?_
        refine o_ist X186 H at_260 (L' := #[.val (.int p1), .val (.int p2), .val (.int p3), .val (.int s0), .val (.int s1), .val (.int s2), .val (.int (0 : Int32)), .val (.int w0), .val (.int w1), .val (.int w2), .val (.int w3), .val (.int (4 : Int32)), .val (.ref x178), .val (.ref x186), .val (.int (1 : Int32)), .unset, .unset]) rfl ?_
        refine o_ild X186 H at_262 rfl ?_
        refine o_ifN X186 H at_264 ((if0 _ _).trans (teq (by decide : (0 : Int32) = (0 : Int32))).2) ?_
        refine o_ild X186 H at_267 rfl ?_
        refine o_go X186 H at_269 (pc' := 296) (by decide) (by decide) ?_
        refine o_ist X186 H at_296 (L' := #[.val (.int p1), .val (.int p2), .val (.int p3), .val (.int s0), .val (.int s1), .val (.int s2), .val (.int (0 : Int32)), .val (.int w0), .val (.int w1), .val (.int w2), .val (.int w3), .val (.int (4 : Int32)), .val (.ref x178), .val (.ref x186), .val (.int (1 : Int32)), .val (.int w0), .unset]) rfl ?_
        refine o_ild X186 H at_298 rfl ?_
        refine o_ild X186 H at_300 rfl ?_
        refine o_icN X186 H at_302 (flt (by decide : ¬ ((4 : Int32) < (0 : Int32)))).1 ?_
        refine o_ild X186 H at_305 rfl ?_
        refine o_ifN X186 H at_307 ((if0 _ _).trans (feq (by decide : ¬ ((1 : Int32) = (0 : Int32)))).1) ?_
        refine o_ild X186 H at_310 rfl ?_
        refine o_ild X186 H at_312 rfl ?_
        refine o_icN X186 H at_314 (feq (by decide : ¬ ((4 : Int32) = (0 : Int32)))).1 ?_
        refine o_ild X186 H at_317 rfl ?_
        refine o_bi X186 H at_319 (v := 40) rfl ?_
        by_cases hc187 : w0 = (40 : Int32)
        · refine o_icN X186 H at_321 (teq hc187).2 ?_
          refine o_ic X186 H at_324 (v := 1) rfl ?_
          refine o_go X186 H at_325 (pc' := 329) (by decide) (by decide) ?_
          refine o_ist X186 H at_329 (L' := #[.val (.int p1), .val (.int p2), .val (.int p3), .val (.int s0), .val (.int s1), .val (.int s2), .val (.int (0 : Int32)), .val (.int w0), .val (.int w1), .val (.int w2), .val (.int w3), .val (.int (4 : Int32)), .val (.ref x178), .val (.ref x186), .val (.int (1 : Int32)), .val (.int w0), .val (.int (1 : Int32))]) rfl ?_
          exact PT _ _ _ _ _ _ _ _ _ _ _ _ _ _ x186 t186 x178 t178 kt186 kt178 4 0 [w0, w1, w2, w3] ([] : List Int32) _ rfl rfl (by decide) (by decide) (List.forall_mem_cons.mpr ⟨rw0, List.forall_mem_cons.mpr ⟨rw1, List.forall_mem_cons.mpr ⟨rw2, List.forall_mem_cons.mpr ⟨rw3, fun _ q => nomatch q⟩⟩⟩⟩) (fun _ q => nomatch q) (Or.inl ⟨rfl, (own_U_4_0 w0 w1 w2 w3).mpr hc187⟩) T186 _ _ _ _ (X186.more (by decide) (by decide)) rfl N186 hS178 hZ178 hown178 (CHv.keep K186 sf0 A178.1) (CHr.trans (CHr.trans (CHr.refl CH0) A178) (CHr.keep K186 sf0 A178.1)) (Nat.le_trans (Nat.le_refl (Array.size T178.heap)) K186.1) (Nat.le_trans (Nat.le_trans Z0 K178.1) K186.1) ((O.keep K178 all0).keep K186 all0) Eq186 Cq186 Vq186 Aq186 (Eq178.keep K186) (Cq178.keep K186 nin0) (Vq178.keep K186 nin0) (Aq178.keep K186 nin0)
        · refine o_icY X186 H at_321 (feq hc187).2 (pc' := 328) (by decide) (by decide) ?_
          refine o_ic X186 H at_328 (v := 0) rfl ?_
          refine o_ist X186 H at_329 (L' := #[.val (.int p1), .val (.int p2), .val (.int p3), .val (.int s0), .val (.int s1), .val (.int s2), .val (.int (0 : Int32)), .val (.int w0), .val (.int w1), .val (.int w2), .val (.int w3), .val (.int (4 : Int32)), .val (.ref x178), .val (.ref x186), .val (.int (1 : Int32)), .val (.int w0), .val (.int (0 : Int32))]) rfl ?_
          exact PT _ _ _ _ _ _ _ _ _ _ _ _ _ _ x186 t186 x178 t178 kt186 kt178 4 0 [w0, w1, w2, w3] ([] : List Int32) _ rfl rfl (by decide) (by decide) (List.forall_mem_cons.mpr ⟨rw0, List.forall_mem_cons.mpr ⟨rw1, List.forall_mem_cons.mpr ⟨rw2, List.forall_mem_cons.mpr ⟨rw3, fun _ q => nomatch q⟩⟩⟩⟩) (fun _ q => nomatch q) (Or.inr ⟨rfl, fun u => absurd (((own_U_4_0 w0 w1 w2 w3).mp u)) hc187⟩) T186 _ _ _ _ (X186.more (by decide) (by decide)) rfl N186 hS178 hZ178 hown178 (CHv.keep K186 sf0 A178.1) (CHr.trans (CHr.trans (CHr.refl CH0) A178) (CHr.keep K186 sf0 A178.1)) (Nat.le_trans (Nat.le_refl (Array.size T178.heap)) K186.1) (Nat.le_trans (Nat.le_trans Z0 K178.1) K186.1) ((O.keep K178 all0).keep K186 all0) Eq186 Cq186 Vq186 Aq186 (Eq178.keep K186) (Cq178.keep K186 nin0) (Vq178.keep K186 nin0) (Aq178.keep K186 nin0)
    · show own_Fin p e below _ (s₁.setTop (mkF m 86 #[.val (.int p1), .val (.int p2), .val (.int p3), .val (.int s0), .val (.int s1), .val (.int s2), .val (.int (0 : Int32)), .val (.int k0), .val (.int k1), .val (.int k2), .val (.int k3), .val (.int cl), .unset, .unset, .unset, .unset, .unset] []))
      refine o_ildN X0 H at_86 rfl ?_
      refine o_ic X0 H at_87 (v := 3) rfl ?_
      refine own_on (fun tq => XS.iushr X0.here hx rfl (hb hby at_88) rfl) ?_
      show own_Fin p e below _ (s₁.setTop (mkF m 89 #[.val (.int p1), .val (.int p2), .val (.int p3), .val (.int s0), .val (.int s1), .val (.int s2), .val (.int (0 : Int32)), .val (.int k0), .val (.int k1), .val (.int k2), .val (.int k3), .val (.int cl), .unset, .unset, .unset, .unset, .unset] [(.int ((p3.toUInt32 >>> ((3 : Int32) &&& 31).toUInt32).toInt32))]))
      refine o_ic X0 H at_89 (v := 1) rfl ?_
      refine o_iand X0 H at_90 ?_
      by_cases hc188 : (((p3.toUInt32 >>> ((3 : Int32) &&& 31).toUInt32).toInt32) &&& (1 : Int32)) = (0 : Int32)
      · refine o_ifY X0 H at_91 ((if0 _ _).trans (teq hc188).1) (pc' := 102) (by decide) (by decide) ?_
        refine o_ildN X0 H at_102 rfl ?_
        refine o_ic X0 H at_103 (v := 4) rfl ?_
        refine own_on (fun tq => XS.iushr X0.here hx rfl (hb hby at_104) rfl) ?_
        show own_Fin p e below _ (s₁.setTop (mkF m 105 #[.val (.int p1), .val (.int p2), .val (.int p3), .val (.int s0), .val (.int s1), .val (.int s2), .val (.int (0 : Int32)), .val (.int k0), .val (.int k1), .val (.int k2), .val (.int k3), .val (.int cl), .unset, .unset, .unset, .unset, .unset] [(.int ((p3.toUInt32 >>> ((4 : Int32) &&& 31).toUInt32).toInt32))]))
        refine o_ic X0 H at_105 (v := 1) rfl ?_
        refine o_iand X0 H at_106 ?_
        by_cases hc189 : (((p3.toUInt32 >>> ((4 : Int32) &&& 31).toUInt32).toInt32) &&& (1 : Int32)) = (0 : Int32)
        · refine o_ifY X0 H at_107 ((if0 _ _).trans (teq hc189).1) (pc' := 120) (by decide) (by decide) ?_
          refine o_ildN X0 H at_120 rfl ?_
          refine o_ic X0 H at_121 (v := 5) rfl ?_
          refine own_on (fun tq => XS.iushr X0.here hx rfl (hb hby at_122) rfl) ?_
          show own_Fin p e below _ (s₁.setTop (mkF m 123 #[.val (.int p1), .val (.int p2), .val (.int p3), .val (.int s0), .val (.int s1), .val (.int s2), .val (.int (0 : Int32)), .val (.int k0), .val (.int k1), .val (.int k2), .val (.int k3), .val (.int cl), .unset, .unset, .unset, .unset, .unset] [(.int ((p3.toUInt32 >>> ((5 : Int32) &&& 31).toUInt32).toInt32))]))
          refine o_ic X0 H at_123 (v := 1) rfl ?_
          refine o_iand X0 H at_124 ?_
          by_cases hc190 : (((p3.toUInt32 >>> ((5 : Int32) &&& 31).toUInt32).toInt32) &&& (1 : Int32)) = (0 : Int32)
          · refine o_ifY X0 H at_125 ((if0 _ _).trans (teq hc190).1) (pc' := 138) (by decide) (by decide) ?_
            refine o_ildN X0 H at_138 rfl ?_
            refine o_si X0 H at_139 (v := 128) rfl ?_
            refine o_iand X0 H at_142 ?_
            by_cases hc191 : (p3 &&& (128 : Int32)) = (0 : Int32)
            · refine o_ifY X0 H at_143 ((if0 _ _).trans (teq hc191).1) (pc' := 188) (by decide) (by decide) ?_
              exact HM _ _ _ _ ⟨rk0, rk1, rk2, rk3⟩
            · refine o_ifN X0 H at_143 ((if0 _ _).trans (feq hc191).1) ?_
              refine o_ild X0 H at_146 rfl ?_
              refine o_ifN X0 H at_148 ((if0 _ _).trans (teq (by decide : (0 : Int32) = (0 : Int32))).2) ?_
              refine o_bi X0 H at_151 (v := 40) rfl ?_
              refine o_ist X0 H at_153 (L' := #[.val (.int p1), .val (.int p2), .val (.int p3), .val (.int s0), .val (.int s1), .val (.int s2), .val (.int (0 : Int32)), .val (.int (40 : Int32)), .val (.int k1), .val (.int k2), .val (.int k3), .val (.int cl), .unset, .unset, .unset, .unset, .unset]) rfl ?_
              refine o_go X0 H at_155 (pc' := 188) (by decide) (by decide) ?_
              exact HM _ _ _ _ ⟨(by decide), rk1, rk2, rk3⟩
          · refine o_ifN X0 H at_125 ((if0 _ _).trans (feq hc190).1) ?_
            refine o_ild X0 H at_128 rfl ?_
            refine o_ic X0 H at_130 (v := 2) rfl ?_
            refine o_icY X0 H at_131 (flt (by decide : ¬ ((2 : Int32) < (0 : Int32)))).2.2.2 (pc' := 138) (by decide) (by decide) ?_
            refine o_ildN X0 H at_138 rfl ?_
            refine o_si X0 H at_139 (v := 128) rfl ?_
            refine o_iand X0 H at_142 ?_
            by_cases hc192 : (p3 &&& (128 : Int32)) = (0 : Int32)
            · refine o_ifY X0 H at_143 ((if0 _ _).trans (teq hc192).1) (pc' := 188) (by decide) (by decide) ?_
              exact HM _ _ _ _ ⟨rk0, rk1, rk2, rk3⟩
            · refine o_ifN X0 H at_143 ((if0 _ _).trans (feq hc192).1) ?_
              refine o_ild X0 H at_146 rfl ?_
              refine o_ifN X0 H at_148 ((if0 _ _).trans (teq (by decide : (0 : Int32) = (0 : Int32))).2) ?_
              refine o_bi X0 H at_151 (v := 40) rfl ?_
              refine o_ist X0 H at_153 (L' := #[.val (.int p1), .val (.int p2), .val (.int p3), .val (.int s0), .val (.int s1), .val (.int s2), .val (.int (0 : Int32)), .val (.int (40 : Int32)), .val (.int k1), .val (.int k2), .val (.int k3), .val (.int cl), .unset, .unset, .unset, .unset, .unset]) rfl ?_
              refine o_go X0 H at_155 (pc' := 188) (by decide) (by decide) ?_
              exact HM _ _ _ _ ⟨(by decide), rk1, rk2, rk3⟩
        · refine o_ifN X0 H at_107 ((if0 _ _).trans (feq hc189).1) ?_
          refine o_ild X0 H at_110 rfl ?_
          refine o_ic X0 H at_112 (v := 1) rfl ?_
          refine o_icY X0 H at_113 (flt (by decide : ¬ ((1 : Int32) < (0 : Int32)))).2.2.2 (pc' := 120) (by decide) (by decide) ?_
          refine o_ildN X0 H at_120 rfl ?_
          refine o_ic X0 H at_121 (v := 5) rfl ?_
          refine own_on (fun tq => XS.iushr X0.here hx rfl (hb hby at_122) rfl) ?_
          show own_Fin p e below _ (s₁.setTop (mkF m 123 #[.val (.int p1), .val (.int p2), .val (.int p3), .val (.int s0), .val (.int s1), .val (.int s2), .val (.int (0 : Int32)), .val (.int k0), .val (.int k1), .val (.int k2), .val (.int k3), .val (.int cl), .unset, .unset, .unset, .unset, .unset] [(.int ((p3.toUInt32 >>> ((5 : Int32) &&& 31).toUInt32).toInt32))]))
          refine o_ic X0 H at_123 (v := 1) rfl ?_
          refine o_iand X0 H at_124 ?_
          by_cases hc193 : (((p3.toUInt32 >>> ((5 : Int32) &&& 31).toUInt32).toInt32) &&& (1 : Int32)) = (0 : Int32)
          · refine o_ifY X0 H at_125 ((if0 _ _).trans (teq hc193).1) (pc' := 138) (by decide) (by decide) ?_
            refine o_ildN X0 H at_138 rfl ?_
            refine o_si X0 H at_139 (v := 128) rfl ?_
            refine o_iand X0 H at_142 ?_
            by_cases hc194 : (p3 &&& (128 : Int32)) = (0 : Int32)
            · refine o_ifY X0 H at_143 ((if0 _ _).trans (teq hc194).1) (pc' := 188) (by decide) (by decide) ?_
              exact HM _ _ _ _ ⟨rk0, rk1, rk2, rk3⟩
            · refine o_ifN X0 H at_143 ((if0 _ _).trans (feq hc194).1) ?_
              refine o_ild X0 H at_146 rfl ?_
              refine o_ifN X0 H at_148 ((if0 _ _).trans (teq (by decide : (0 : Int32) = (0 : Int32))).2) ?_
              refine o_bi X0 H at_151 (v := 40) rfl ?_
              refine o_ist X0 H at_153 (L' := #[.val (.int p1), .val (.int p2), .val (.int p3), .val (.int s0), .val (.int s1), .val (.int s2), .val (.int (0 : Int32)), .val (.int (40 : Int32)), .val (.int k1), .val (.int k2), .val (.int k3), .val (.int cl), .unset, .unset, .unset, .unset, .unset]) rfl ?_
              refine o_go X0 H at_155 (pc' := 188) (by decide) (by decide) ?_
              exact HM _ _ _ _ ⟨(by decide), rk1, rk2, rk3⟩
          · refine o_ifN X0 H at_125 ((if0 _ _).trans (feq hc193).1) ?_
            refine o_ild X0 H at_128 rfl ?_
            refine o_ic X0 H at_130 (v := 2) rfl ?_
            refine o_icY X0 H at_131 (flt (by decide : ¬ ((2 : Int32) < (0 : Int32)))).2.2.2 (pc' := 138) (by decide) (by decide) ?_
            refine o_ildN X0 H at_138 rfl ?_
            refine o_si X0 H at_139 (v := 128) rfl ?_
            refine o_iand X0 H at_142 ?_
            by_cases hc195 : (p3 &&& (128 : Int32)) = (0 : Int32)
            · refine o_ifY X0 H at_143 ((if0 _ _).trans (teq hc195).1) (pc' := 188) (by decide) (by decide) ?_
              exact HM _ _ _ _ ⟨rk0, rk1, rk2, rk3⟩
            · refine o_ifN X0 H at_143 ((if0 _ _).trans (feq hc195).1) ?_
              refine o_ild X0 H at_146 rfl ?_
              refine o_ifN X0 H at_148 ((if0 _ _).trans (teq (by decide : (0 : Int32) = (0 : Int32))).2) ?_
              refine o_bi X0 H at_151 (v := 40) rfl ?_
              refine o_ist X0 H at_153 (L' := #[.val (.int p1), .val (.int p2), .val (.int p3), .val (.int s0), .val (.int s1), .val (.int s2), .val (.int (0 : Int32)), .val (.int (40 : Int32)), .val (.int k1), .val (.int k2), .val (.int k3), .val (.int cl), .unset, .unset, .unset, .unset, .unset]) rfl ?_
              refine o_go X0 H at_155 (pc' := 188) (by decide) (by decide) ?_
              exact HM _ _ _ _ ⟨(by decide), rk1, rk2, rk3⟩
      · refine o_ifN X0 H at_91 ((if0 _ _).trans (feq hc188).1) ?_
        refine o_ild X0 H at_94 rfl ?_
        refine o_ifY X0 H at_96 ((if0 _ _).trans (flt (by decide : ¬ ((0 : Int32) < (0 : Int32)))).2.2.2) (pc' := 102) (by decide) (by decide) ?_
        refine o_ildN X0 H at_102 rfl ?_
        refine o_ic X0 H at_103 (v := 4) rfl ?_
        refine own_on (fun tq => XS.iushr X0.here hx rfl (hb hby at_104) rfl) ?_
        show own_Fin p e below _ (s₁.setTop (mkF m 105 #[.val (.int p1), .val (.int p2), .val (.int p3), .val (.int s0), .val (.int s1), .val (.int s2), .val (.int (0 : Int32)), .val (.int k0), .val (.int k1), .val (.int k2), .val (.int k3), .val (.int cl), .unset, .unset, .unset, .unset, .unset] [(.int ((p3.toUInt32 >>> ((4 : Int32) &&& 31).toUInt32).toInt32))]))
        refine o_ic X0 H at_105 (v := 1) rfl ?_
        refine o_iand X0 H at_106 ?_
        by_cases hc196 : (((p3.toUInt32 >>> ((4 : Int32) &&& 31).toUInt32).toInt32) &&& (1 : Int32)) = (0 : Int32)
        · refine o_ifY X0 H at_107 ((if0 _ _).trans (teq hc196).1) (pc' := 120) (by decide) (by decide) ?_
          refine o_ildN X0 H at_120 rfl ?_
          refine o_ic X0 H at_121 (v := 5) rfl ?_
          refine own_on (fun tq => XS.iushr X0.here hx rfl (hb hby at_122) rfl) ?_
          show own_Fin p e below _ (s₁.setTop (mkF m 123 #[.val (.int p1), .val (.int p2), .val (.int p3), .val (.int s0), .val (.int s1), .val (.int s2), .val (.int (0 : Int32)), .val (.int k0), .val (.int k1), .val (.int k2), .val (.int k3), .val (.int cl), .unset, .unset, .unset, .unset, .unset] [(.int ((p3.toUInt32 >>> ((5 : Int32) &&& 31).toUInt32).toInt32))]))
          refine o_ic X0 H at_123 (v := 1) rfl ?_
          refine o_iand X0 H at_124 ?_
          by_cases hc197 : (((p3.toUInt32 >>> ((5 : Int32) &&& 31).toUInt32).toInt32) &&& (1 : Int32)) = (0 : Int32)
          · refine o_ifY X0 H at_125 ((if0 _ _).trans (teq hc197).1) (pc' := 138) (by decide) (by decide) ?_
            refine o_ildN X0 H at_138 rfl ?_
            refine o_si X0 H at_139 (v := 128) rfl ?_
            refine o_iand X0 H at_142 ?_
            by_cases hc198 : (p3 &&& (128 : Int32)) = (0 : Int32)
            · refine o_ifY X0 H at_143 ((if0 _ _).trans (teq hc198).1) (pc' := 188) (by decide) (by decide) ?_
              exact HM _ _ _ _ ⟨rk0, rk1, rk2, rk3⟩
            · refine o_ifN X0 H at_143 ((if0 _ _).trans (feq hc198).1) ?_
              refine o_ild X0 H at_146 rfl ?_
              refine o_ifN X0 H at_148 ((if0 _ _).trans (teq (by decide : (0 : Int32) = (0 : Int32))).2) ?_
              refine o_bi X0 H at_151 (v := 40) rfl ?_
              refine o_ist X0 H at_153 (L' := #[.val (.int p1), .val (.int p2), .val (.int p3), .val (.int s0), .val (.int s1), .val (.int s2), .val (.int (0 : Int32)), .val (.int (40 : Int32)), .val (.int k1), .val (.int k2), .val (.int k3), .val (.int cl), .unset, .unset, .unset, .unset, .unset]) rfl ?_
              refine o_go X0 H at_155 (pc' := 188) (by decide) (by decide) ?_
              exact HM _ _ _ _ ⟨(by decide), rk1, rk2, rk3⟩
          · refine o_ifN X0 H at_125 ((if0 _ _).trans (feq hc197).1) ?_
            refine o_ild X0 H at_128 rfl ?_
            refine o_ic X0 H at_130 (v := 2) rfl ?_
            refine o_icY X0 H at_131 (flt (by decide : ¬ ((2 : Int32) < (0 : Int32)))).2.2.2 (pc' := 138) (by decide) (by decide) ?_
            refine o_ildN X0 H at_138 rfl ?_
            refine o_si X0 H at_139 (v := 128) rfl ?_
            refine o_iand X0 H at_142 ?_
            by_cases hc199 : (p3 &&& (128 : Int32)) = (0 : Int32)
            · refine o_ifY X0 H at_143 ((if0 _ _).trans (teq hc199).1) (pc' := 188) (by decide) (by decide) ?_
              exact HM _ _ _ _ ⟨rk0, rk1, rk2, rk3⟩
            · refine o_ifN X0 H at_143 ((if0 _ _).trans (feq hc199).1) ?_
              refine o_ild X0 H at_146 rfl ?_
              refine o_ifN X0 H at_148 ((if0 _ _).trans (teq (by decide : (0 : Int32) = (0 : Int32))).2) ?_
              refine o_bi X0 H at_151 (v := 40) rfl ?_
              refine o_ist X0 H at_153 (L' := #[.val (.int p1), .val (.int p2), .val (.int p3), .val (.int s0), .val (.int s1), .val (.int s2), .val (.int (0 : Int32)), .val (.int (40 : Int32)), .val (.int k1), .val (.int k2), .val (.int k3), .val (.int cl), .unset, .unset, .unset, .unset, .unset]) rfl ?_
              refine o_go X0 H at_155 (pc' := 188) (by decide) (by decide) ?_
              exact HM _ _ _ _ ⟨(by decide), rk1, rk2, rk3⟩
        · refine o_ifN X0 H at_107 ((if0 _ _).trans (feq hc196).1) ?_
          refine o_ild X0 H at_110 rfl ?_
          refine o_ic X0 H at_112 (v := 1) rfl ?_
          refine o_icY X0 H at_113 (flt (by decide : ¬ ((1 : Int32) < (0 : Int32)))).2.2.2 (pc' := 120) (by decide) (by decide) ?_
          refine o_ildN X0 H at_120 rfl ?_
          refine o_ic X0 H at_121 (v := 5) rfl ?_
          refine own_on (fun tq => XS.iushr X0.here hx rfl (hb hby at_122) rfl) ?_
          show own_Fin p e below _ (s₁.setTop (mkF m 123 #[.val (.int p1), .val (.int p2), .val (.int p3), .val (.int s0), .val (.int s1), .val (.int s2), .val (.int (0 : Int32)), .val (.int k0), .val (.int k1), .val (.int k2), .val (.int k3), .val (.int cl), .unset, .unset, .unset, .unset, .unset] [(.int ((p3.toUInt32 >>> ((5 : Int32) &&& 31).toUInt32).toInt32))]))
          refine o_ic X0 H at_123 (v := 1) rfl ?_
          refine o_iand X0 H at_124 ?_
          by_cases hc200 : (((p3.toUInt32 >>> ((5 : Int32) &&& 31).toUInt32).toInt32) &&& (1 : Int32)) = (0 : Int32)
          · refine o_ifY X0 H at_125 ((if0 _ _).trans (teq hc200).1) (pc' := 138) (by decide) (by decide) ?_
            refine o_ildN X0 H at_138 rfl ?_
            refine o_si X0 H at_139 (v := 128) rfl ?_
            refine o_iand X0 H at_142 ?_
            by_cases hc201 : (p3 &&& (128 : Int32)) = (0 : Int32)
            · refine o_ifY X0 H at_143 ((if0 _ _).trans (teq hc201).1) (pc' := 188) (by decide) (by decide) ?_
              exact HM _ _ _ _ ⟨rk0, rk1, rk2, rk3⟩
            · refine o_ifN X0 H at_143 ((if0 _ _).trans (feq hc201).1) ?_
              refine o_ild X0 H at_146 rfl ?_
              refine o_ifN X0 H at_148 ((if0 _ _).trans (teq (by decide : (0 : Int32) = (0 : Int32))).2) ?_
              refine o_bi X0 H at_151 (v := 40) rfl ?_
              refine o_ist X0 H at_153 (L' := #[.val (.int p1), .val (.int p2), .val (.int p3), .val (.int s0), .val (.int s1), .val (.int s2), .val (.int (0 : Int32)), .val (.int (40 : Int32)), .val (.int k1), .val (.int k2), .val (.int k3), .val (.int cl), .unset, .unset, .unset, .unset, .unset]) rfl ?_
              refine o_go X0 H at_155 (pc' := 188) (by decide) (by decide) ?_
              exact HM _ _ _ _ ⟨(by decide), rk1, rk2, rk3⟩
          · refine o_ifN X0 H at_125 ((if0 _ _).trans (feq hc200).1) ?_
            refine o_ild X0 H at_128 rfl ?_
            refine o_ic X0 H at_130 (v := 2) rfl ?_
            refine o_icY X0 H at_131 (flt (by decide : ¬ ((2 : Int32) < (0 : Int32)))).2.2.2 (pc' := 138) (by decide) (by decide) ?_
            refine o_ildN X0 H at_138 rfl ?_
            refine o_si X0 H at_139 (v := 128) rfl ?_
            refine o_iand X0 H at_142 ?_
            by_cases hc202 : (p3 &&& (128 : Int32)) = (0 : Int32)
            · refine o_ifY X0 H at_143 ((if0 _ _).trans (teq hc202).1) (pc' := 188) (by decide) (by decide) ?_
              exact HM _ _ _ _ ⟨rk0, rk1, rk2, rk3⟩
            · refine o_ifN X0 H at_143 ((if0 _ _).trans (feq hc202).1) ?_
              refine o_ild X0 H at_146 rfl ?_
              refine o_ifN X0 H at_148 ((if0 _ _).trans (teq (by decide : (0 : Int32) = (0 : Int32))).2) ?_
              refine o_bi X0 H at_151 (v := 40) rfl ?_
              refine o_ist X0 H at_153 (L' := #[.val (.int p1), .val (.int p2), .val (.int p3), .val (.int s0), .val (.int s1), .val (.int s2), .val (.int (0 : Int32)), .val (.int (40 : Int32)), .val (.int k1), .val (.int k2), .val (.int k3), .val (.int cl), .unset, .unset, .unset, .unset, .unset]) rfl ?_
              refine o_go X0 H at_155 (pc' := 188) (by decide) (by decide) ?_
              exact HM _ _ _ _ ⟨(by decide), rk1, rk2, rk3⟩
  · rw [hn]
    show own_Fin p e below _ (s₁.setTop (mkF m 86 #[.val (.int p1), .val (.int p2), .val (.int p3), .val (.int s0), .val (.int s1), .val (.int s2), .val (.int (1 : Int32)), .val (.int k0), .val (.int k1), .val (.int k2), .val (.int k3), .val (.int cl), .unset, .unset, .unset, .unset, .unset] []))
    refine own_mergeA (B := fun w0 w1 w2 w3 => (s₁.setTop (mkF m 188 #[.val (.int p1), .val (.int p2), .val (.int p3), .val (.int s0), .val (.int s1), .val (.int s2), .val (.int (1 : Int32)), .val (.int w0), .val (.int w1), .val (.int w2), .val (.int w3), .val (.int cl), .unset, .unset, .unset, .unset, .unset] []))) (R := fun w0 w1 w2 w3 => ((¬ w0 < 0 ∧ ¬ (255 : Int32) < w0) ∧ (¬ w1 < 0 ∧ ¬ (255 : Int32) < w1) ∧ (¬ w2 < 0 ∧ ¬ (255 : Int32) < w2) ∧ (¬ w3 < 0 ∧ ¬ (255 : Int32) < w3))) ?_ (fun HM => ?_)
    · intro w0 w1 w2 w3 hR
      obtain ⟨rw0, rw1, rw2, rw3⟩ := hR
      show own_Fin p e below _ (s₁.setTop (mkF m 188 #[.val (.int p1), .val (.int p2), .val (.int p3), .val (.int s0), .val (.int s1), .val (.int s2), .val (.int (1 : Int32)), .val (.int w0), .val (.int w1), .val (.int w2), .val (.int w3), .val (.int cl), .unset, .unset, .unset, .unset, .unset] []))
      refine o_ildN X0 H at_188 rfl ?_
      refine o_ild X0 H at_189 rfl ?_
      refine o_ild X0 H at_191 rfl ?_
      refine o_ild X0 H at_193 rfl ?_
      refine o_ild X0 H at_195 rfl ?_
      refine o_tc (argsL := [(.int s0), (.int s1), (.int s2), (.int s2), (.int (1 : Int32))]) (rest := []) X0 H hml hZ hown (ow hw 0 rfl) (ow hw 1 rfl) (ow hw 2 rfl) (ow hw 3 rfl) (backOf (W := 0) (rmMk1 l Z a0 hw [] s0 s1 s2 s2 z h0 n0 (by exact Z0) rs0 rs1 rs2 rs2 hz O SC) hZ (ow hw 3 rfl) (ow hw 2 rfl) (by decide) (by decide)) (by decide) e0 pd_24 at_197 rfl rfl rfl rfl rfl (by decide) (by decide) fun _ T203 Lc203 X203 hQ203 => ?_
      obtain ⟨x203, t203, kt203, rfl, N203q, K203, Eq203, Cq203, Vq203, Aq203⟩ := hQ203
      have N203 := Fr.app N0 N203q
      show own_Fin p e below _ (T203.setTop (mkF m 200 #[.val (.int p1), .val (.int p2), .val (.int p3), .val (.int s0), .val (.int s1), .val (.int s2), .val (.int (1 : Int32)), .val (.int w0), .val (.int w1), .val (.int w2), .val (.int w3), .val (.int cl), .unset, .unset, .unset, .unset, .unset] [(.ref x203)]))
      refine o_ast X203 H at_200 (L' := #[.val (.int p1), .val (.int p2), .val (.int p3), .val (.int s0), .val (.int s1), .val (.int s2), .val (.int (1 : Int32)), .val (.int w0), .val (.int w1), .val (.int w2), .val (.int w3), .val (.int cl), .val (.ref x203), .unset, .unset, .unset, .unset]) rfl rfl ?_
      rcases (hcl ▸ own_rem5 _ : cl = 0 ∨ cl = 1 ∨ cl = 2 ∨ cl = 3 ∨ cl = 4) with hm | hm | hm | hm | hm
      · rw [hm]
        show own_Fin p e below _ (T203.setTop (mkF m 202 #[.val (.int p1), .val (.int p2), .val (.int p3), .val (.int s0), .val (.int s1), .val (.int s2), .val (.int (1 : Int32)), .val (.int w0), .val (.int w1), .val (.int w2), .val (.int w3), .val (.int (0 : Int32)), .val (.ref x203), .unset, .unset, .unset, .unset] []))
        refine o_ild X203 H at_202 rfl ?_
        refine o_ild X203 H at_204 rfl ?_
        refine o_ild X203 H at_206 rfl ?_
        refine o_ild X203 H at_208 rfl ?_
        refine o_ild X203 H at_210 rfl ?_
        obtain ⟨_, _, ⟨T204, L204, k204, n204⟩, -, X204', S204', gr204, ⟨Lc204, hQ204, l204, y204, z204, A204⟩, st204⟩ := callSS X203 hx (y := (⟨"com/example/covenantry/covenantry/input/LedgerIsUnderPinLaw", "mk", "(CCCCI)Ljava/lang/String;"⟩ : MethodName)) hown (mvT hZ (ow hw 0 rfl)) (mvT hZ (ow hw 1 rfl)) (mvT hZ (ow hw 2 rfl)) (mvT hZ (ow hw 3 rfl)) (by decide) (backOfSH (s := s) (W := 0) (rmMk0 l Z a0 hw [] w0 w1 w2 w3 z T203.heap n0 (by exact (Nat.le_trans Z0 K203.1)) hEL rw0 rw1 rw2 rw3 hz (O.keep K203 all0) SC) hZ (ow hw 3 rfl) (ow hw 2 rfl) (by decide) (by decide) hEL (CHv.keep K203 sf0 CH0)) (g := (mkF m 212 #[.val (.int p1), .val (.int p2), .val (.int p3), .val (.int s0), .val (.int s1), .val (.int s2), .val (.int (1 : Int32)), .val (.int w0), .val (.int w1), .val (.int w2), .val (.int w3), .val (.int (0 : Int32)), .val (.ref x203), .unset, .unset, .unset, .unset] [(.int (0 : Int32)), (.int w3), (.int w2), (.int w1), (.int w0)])) rfl hml.symm (argsL := [(.int w0), (.int w1), (.int w2), (.int w3), (.int (0 : Int32))]) (rest := []) (lenOf pd_24 rfl) rfl (o_mr rfl) (hb hby at_212) (fun _ _ => ⟨rfl, rfl, (by decide : 3 + 6 ≤ _), (by decide : 6 + 12 ≤ _)⟩)
        dsimp only [Pt.U, Pt.locs, Pt.cells, Pt.slots] at X204' S204' gr204 l204 y204 z204 st204 hQ204 A204
        replace l204 := l204.symm; replace y204 := y204.symm; replace z204 := z204.symm; subst l204 y204 z204
        obtain ⟨X204, hS204, hZ204, hown204⟩ := rebS hS0 (by first | exact (Nat.le_trans (Nat.zero_le _) K203.1) | (rw [(rfl : 0 = 0)]; exact (Nat.le_trans (Nat.zero_le _) K203.1))) X204' S204' gr204 hZ hown
        obtain ⟨x204, t204, kt204, rfl, N204q, K204, Eq204, Cq204, Vq204, Aq204⟩ := hQ204
        have N204 := Fr.app N203 N204q
        refine own_via st204 ?_
        show own_Fin p e below _ (T204.setTop (mkF m 215 #[.val (.int p1), .val (.int p2), .val (.int p3), .val (.int s0), .val (.int s1), .val (.int s2), .val (.int (1 : Int32)), .val (.int w0), .val (.int w1), .val (.int w2), .val (.int w3), .val (.int (0 : Int32)), .val (.ref x203), .unset, .unset, .unset, .unset] [(.ref x204)]))
        refine o_ast X204 H at_215 (L' := #[.val (.int p1), .val (.int p2), .val (.int p3), .val (.int s0), .val (.int s1), .val (.int s2), .val (.int (1 : Int32)), .val (.int w0), .val (.int w1), .val (.int w2), .val (.int w3), .val (.int (0 : Int32)), .val (.ref x203), .val (.ref x204), .unset, .unset, .unset]) rfl rfl ?_
        refine o_ild X204 H at_217 rfl ?_
        refine o_ic X204 H at_219 (v := 1) rfl ?_
        refine o_icN X204 H at_220 (flt (by decide : ¬ ((1 : Int32) < (1 : Int32)))).1 ?_
        refine o_ild X204 H at_223 rfl ?_
        refine o_ildN X204 H at_225 rfl ?_
        by_cases hc205 : w0 = s0
        · refine o_icN X204 H at_226 (teq hc205).2 ?_
          refine o_ild X204 H at_229 rfl ?_
          refine o_ic X204 H at_231 (v := 2) rfl ?_
          refine o_icY X204 H at_232 (tlt (by decide : (1 : Int32) < (2 : Int32))).1 (pc' := 242) (by decide) (by decide) ?_
          refine o_ild X204 H at_242 rfl ?_
          refine o_ic X204 H at_244 (v := 3) rfl ?_
          refine o_icY X204 H at_245 (tlt (by decide : (1 : Int32) < (3 : Int32))).1 (pc' := 255) (by decide) (by decide) ?_
          refine o_ic X204 H at_255 (v := 1) rfl ?_
          refine o_go X204 H at_256 (pc' := 260) (by decide) (by decide) ?_
          refine o_ist X204 H at_260 (L' := #[.val (.int p1), .val (.int p2), .val (.int p3), .val (.int s0), .val (.int s1), .val (.int s2), .val (.int (1 : Int32)), .val (.int w0), .val (.int w1), .val (.int w2), .val (.int w3), .val (.int (0 : Int32)), .val (.ref x203), .val (.ref x204), .val (.int (1 : Int32)), .unset, .unset]) rfl ?_
          refine o_ild X204 H at_262 rfl ?_
          refine o_ifY X204 H at_264 ((if0 _ _).trans (feq (by decide : ¬ ((1 : Int32) = (0 : Int32)))).2) (pc' := 272) (by decide) (by decide) ?_
          refine o_ild X204 H at_272 rfl ?_
          refine o_ic X204 H at_274 (v := 1) rfl ?_
          refine o_icN X204 H at_275 (teq (by decide : (1 : Int32) = (1 : Int32))).2 ?_
          refine o_ild X204 H at_278 rfl ?_
          refine o_go X204 H at_280 (pc' := 296) (by decide) (by decide) ?_
          refine o_ist X204 H at_296 (L' := #[.val (.int p1), .val (.int p2), .val (.int p3), .val (.int s0), .val (.int s1), .val (.int s2), .val (.int (1 : Int32)), .val (.int w0), .val (.int w1), .val (.int w2), .val (.int w3), .val (.int (0 : Int32)), .val (.ref x203), .val (.ref x204), .val (.int (1 : Int32)), .val (.int w1), .unset]) rfl ?_
          refine o_ild X204 H at_298 rfl ?_
          refine o_ild X204 H at_300 rfl ?_
          refine o_icY X204 H at_302 (tlt (by decide : (0 : Int32) < (1 : Int32))).1 (pc' := 328) (by decide) (by decide) ?_
          refine o_ic X204 H at_328 (v := 0) rfl ?_
          refine o_ist X204 H at_329 (L' := #[.val (.int p1), .val (.int p2), .val (.int p3), .val (.int s0), .val (.int s1), .val (.int s2), .val (.int (1 : Int32)), .val (.int w0), .val (.int w1), .val (.int w2), .val (.int w3), .val (.int (0 : Int32)), .val (.ref x203), .val (.ref x204), .val (.int (1 : Int32)), .val (.int w1), .val (.int (0 : Int32))]) rfl ?_
          exact PT _ _ _ _ _ _ _ _ _ _ _ _ _ _ x204 t204 x203 t203 kt204 kt203 0 1 ([] : List Int32) [s0] _ rfl rfl (by decide) (by decide) (fun _ q => nomatch q) (List.forall_mem_cons.mpr ⟨rs0, fun _ q => nomatch q⟩) (Or.inr ⟨rfl, (own_U_0_1 s0)⟩) T204 _ _ _ _ (X204.more (by decide) (by decide)) rfl N204 hS204 hZ204 hown204 A204.1 (CHr.trans (CHr.trans (CHr.refl CH0) (CHr.keep K203 sf0 CH0)) A204) (Nat.le_refl (Array.size T204.heap)) (Nat.le_trans (Nat.le_trans Z0 K203.1) K204.1) ((O.keep K203 all0).keep K204 all0) Eq204 Cq204 Vq204 Aq204 (Eq203.keep K204) (Cq203.keep K204 nin0) (Vq203.keep K204 nin0) (Aq203.keep K204 nin0)
        · refine o_icY X204 H at_226 (feq hc205).2 (pc' := 259) (by decide) (by decide) ?_
          refine o_ic X204 H at_259 (v := 0) rfl ?_
          refine o_ist X204 H at_260 (L' := #[.val (.int p1), .val (.int p2), .val (.int p3), .val (.int s0), .val (.int s1), .val (.int s2), .val (.int (1 : Int32)), .val (.int w0), .val (.int w1), .val (.int w2), .val (.int w3), .val (.int (0 : Int32)), .val (.ref x203), .val (.ref x204), .val (.int (0 : Int32)), .unset, .unset]) rfl ?_
          refine o_ild X204 H at_262 rfl ?_
          refine o_ifY X204 H at_264 ((if0 _ _).trans (feq (by decide : ¬ ((1 : Int32) = (0 : Int32)))).2) (pc' := 272) (by decide) (by decide) ?_
          refine o_ild X204 H at_272 rfl ?_
          refine o_ic X204 H at_274 (v := 1) rfl ?_
          refine o_icN X204 H at_275 (teq (by decide : (1 : Int32) = (1 : Int32))).2 ?_
          refine o_ild X204 H at_278 rfl ?_
          refine o_go X204 H at_280 (pc' := 296) (by decide) (by decide) ?_
          refine o_ist X204 H at_296 (L' := #[.val (.int p1), .val (.int p2), .val (.int p3), .val (.int s0), .val (.int s1), .val (.int s2), .val (.int (1 : Int32)), .val (.int w0), .val (.int w1), .val (.int w2), .val (.int w3), .val (.int (0 : Int32)), .val (.ref x203), .val (.ref x204), .val (.int (0 : Int32)), .val (.int w1), .unset]) rfl ?_
          refine o_ild X204 H at_298 rfl ?_
          refine o_ild X204 H at_300 rfl ?_
          refine o_icY X204 H at_302 (tlt (by decide : (0 : Int32) < (1 : Int32))).1 (pc' := 328) (by decide) (by decide) ?_
          refine o_ic X204 H at_328 (v := 0) rfl ?_
          refine o_ist X204 H at_329 (L' := #[.val (.int p1), .val (.int p2), .val (.int p3), .val (.int s0), .val (.int s1), .val (.int s2), .val (.int (1 : Int32)), .val (.int w0), .val (.int w1), .val (.int w2), .val (.int w3), .val (.int (0 : Int32)), .val (.ref x203), .val (.ref x204), .val (.int (0 : Int32)), .val (.int w1), .val (.int (0 : Int32))]) rfl ?_
          exact PT _ _ _ _ _ _ _ _ _ _ _ _ _ _ x204 t204 x203 t203 kt204 kt203 0 1 ([] : List Int32) [s0] _ rfl rfl (by decide) (by decide) (fun _ q => nomatch q) (List.forall_mem_cons.mpr ⟨rs0, fun _ q => nomatch q⟩) (Or.inr ⟨rfl, (own_U_0_1 s0)⟩) T204 _ _ _ _ (X204.more (by decide) (by decide)) rfl N204 hS204 hZ204 hown204 A204.1 (CHr.trans (CHr.trans (CHr.refl CH0) (CHr.keep K203 sf0 CH0)) A204) (Nat.le_refl (Array.size T204.heap)) (Nat.le_trans (Nat.le_trans Z0 K203.1) K204.1) ((O.keep K203 all0).keep K204 all0) Eq204 Cq204 Vq204 Aq204 (Eq203.keep K204) (Cq203.keep K204 nin0) (Vq203.keep K204 nin0) (Aq203.keep K204 nin0)
      · rw [hm]
        show own_Fin p e below _ (T203.setTop (mkF m 202 #[.val (.int p1), .val (.int p2), .val (.int p3), .val (.int s0), .val (.int s1), .val (.int s2), .val (.int (1 : Int32)), .val (.int w0), .val (.int w1), .val (.int w2), .val (.int w3), .val (.int (1 : Int32)), .val (.ref x203), .unset, .unset, .unset, .unset] []))
        refine o_ild X203 H at_202 rfl ?_
        refine o_ild X203 H at_204 rfl ?_
        refine o_ild X203 H at_206 rfl ?_
        refine o_ild X203 H at_208 rfl ?_
        refine o_ild X203 H at_210 rfl ?_
        refine o_tc (argsL := [(.int w0), (.int w1), (.int w2), (.int w3), (.int (1 : Int32))]) (rest := []) X203 H hml hZ hown (ow hw 0 rfl) (ow hw 1 rfl) (ow hw 2 rfl) (ow hw 3 rfl) (backOf (W := 0) (rmMk1 l Z a0 hw [] w0 w1 w2 w3 z T203.heap n0 (by exact (Nat.le_trans Z0 K203.1)) rw0 rw1 rw2 rw3 hz (O.keep K203 all0) SC) hZ (ow hw 3 rfl) (ow hw 2 rfl) (by decide) (by decide)) (by decide) rfl pd_24 at_212 rfl rfl rfl rfl rfl (by decide) (by decide) fun _ T206 Lc206 X206 hQ206 => ?_
        obtain ⟨x206, t206, kt206, rfl, N206q, K206, Eq206, Cq206, Vq206, Aq206⟩ := hQ206
        have N206 := Fr.app N203 N206q
        show own_Fin p e below _ (T206.setTop (mkF m 215 #[.val (.int p1), .val (.int p2), .val (.int p3), .val (.int s0), .val (.int s1), .val (.int s2), .val (.int (1 : Int32)), .val (.int w0), .val (.int w1), .val (.int w2), .val (.int w3), .val (.int (1 : Int32)), .val (.ref x203), .unset, .unset, .unset, .unset] [(.ref x206)]))
        refine o_ast X206 H at_215 (L' := #[.val (.int p1), .val (.int p2), .val (.int p3), .val (.int s0), .val (.int s1), .val (.int s2), .val (.int (1 : Int32)), .val (.int w0), .val (.int w1), .val (.int w2), .val (.int w3), .val (.int (1 : Int32)), .val (.ref x203), .val (.ref x206), .unset, .unset, .unset]) rfl rfl ?_
        refine o_ild X206 H at_217 rfl ?_
        refine o_ic X206 H at_219 (v := 1) rfl ?_
        refine o_icN X206 H at_220 (flt (by decide : ¬ ((1 : Int32) < (1 : Int32)))).1 ?_
        refine o_ild X206 H at_223 rfl ?_
        refine o_ildN X206 H at_225 rfl ?_
        by_cases hc207 : w0 = s0
        · refine o_icN X206 H at_226 (teq hc207).2 ?_
          refine o_ild X206 H at_229 rfl ?_
          refine o_ic X206 H at_231 (v := 2) rfl ?_
          refine o_icY X206 H at_232 (tlt (by decide : (1 : Int32) < (2 : Int32))).1 (pc' := 242) (by decide) (by decide) ?_
          refine o_ild X206 H at_242 rfl ?_
          refine o_ic X206 H at_244 (v := 3) rfl ?_
          refine o_icY X206 H at_245 (tlt (by decide : (1 : Int32) < (3 : Int32))).1 (pc' := 255) (by decide) (by decide) ?_
          refine o_ic X206 H at_255 (v := 1) rfl ?_
          refine o_go X206 H at_256 (pc' := 260) (by decide) (by decide) ?_
          refine o_ist X206 H at_260 (L' := #[.val (.int p1), .val (.int p2), .val (.int p3), .val (.int s0), .val (.int s1), .val (.int s2), .val (.int (1 : Int32)), .val (.int w0), .val (.int w1), .val (.int w2), .val (.int w3), .val (.int (1 : Int32)), .val (.ref x203), .val (.ref x206), .val (.int (1 : Int32)), .unset, .unset]) rfl ?_
          refine o_ild X206 H at_262 rfl ?_
          refine o_ifY X206 H at_264 ((if0 _ _).trans (feq (by decide : ¬ ((1 : Int32) = (0 : Int32)))).2) (pc' := 272) (by decide) (by decide) ?_
          refine o_ild X206 H at_272 rfl ?_
          refine o_ic X206 H at_274 (v := 1) rfl ?_
          refine o_icN X206 H at_275 (teq (by decide : (1 : Int32) = (1 : Int32))).2 ?_
          refine o_ild X206 H at_278 rfl ?_
          refine o_go X206 H at_280 (pc' := 296) (by decide) (by decide) ?_
          refine o_ist X206 H at_296 (L' := #[.val (.int p1), .val (.int p2), .val (.int p3), .val (.int s0), .val (.int s1), .val (.int s2), .val (.int (1 : Int32)), .val (.int w0), .val (.int w1), .val (.int w2), .val (.int w3), .val (.int (1 : Int32)), .val (.ref x203), .val (.ref x206), .val (.int (1 : Int32)), .val (.int w1), .unset]) rfl ?_
          refine o_ild X206 H at_298 rfl ?_
          refine o_ild X206 H at_300 rfl ?_
          refine o_icN X206 H at_302 (flt (by decide : ¬ ((1 : Int32) < (1 : Int32)))).1 ?_
          refine o_ild X206 H at_305 rfl ?_
          refine o_ifN X206 H at_307 ((if0 _ _).trans (feq (by decide : ¬ ((1 : Int32) = (0 : Int32)))).1) ?_
          refine o_ild X206 H at_310 rfl ?_
          refine o_ild X206 H at_312 rfl ?_
          refine o_icY X206 H at_314 (teq (by decide : (1 : Int32) = (1 : Int32))).1 (pc' := 324) (by decide) (by decide) ?_
          refine o_ic X206 H at_324 (v := 1) rfl ?_
          refine o_go X206 H at_325 (pc' := 329) (by decide) (by decide) ?_
          refine o_ist X206 H at_329 (L' := #[.val (.int p1), .val (.int p2), .val (.int p3), .val (.int s0), .val (.int s1), .val (.int s2), .val (.int (1 : Int32)), .val (.int w0), .val (.int w1), .val (.int w2), .val (.int w3), .val (.int (1 : Int32)), .val (.ref x203), .val (.ref x206), .val (.int (1 : Int32)), .val (.int w1), .val (.int (1 : Int32))]) rfl ?_
          exact PT _ _ _ _ _ _ _ _ _ _ _ _ _ _ x206 t206 x203 t203 kt206 kt203 1 1 [w0] [s0] _ rfl rfl (by decide) (by decide) (List.forall_mem_cons.mpr ⟨rw0, fun _ q => nomatch q⟩) (List.forall_mem_cons.mpr ⟨rs0, fun _ q => nomatch q⟩) (Or.inl ⟨rfl, (own_U_1_1 w0 s0).mpr hc207⟩) T206 _ _ _ _ (X206.more (by decide) (by decide)) rfl N206 hS0 hZ hown (CHv.keep K206 sf0 (CHv.keep K203 sf0 CH0)) (CHr.trans (CHr.trans (CHr.refl CH0) (CHr.keep K203 sf0 CH0)) (CHr.keep K206 sf0 (CHv.keep K203 sf0 CH0))) (Nat.le_trans (Nat.le_trans (Nat.zero_le _) K203.1) K206.1) (Nat.le_trans (Nat.le_trans Z0 K203.1) K206.1) ((O.keep K203 all0).keep K206 all0) Eq206 Cq206 Vq206 Aq206 (Eq203.keep K206) (Cq203.keep K206 nin0) (Vq203.keep K206 nin0) (Aq203.keep K206 nin0)
        · refine o_icY X206 H at_226 (feq hc207).2 (pc' := 259) (by decide) (by decide) ?_
          refine o_ic X206 H at_259 (v := 0) rfl ?_
          refine o_ist X206 H at_260 (L' := #[.val (.int p1), .val (.int p2), .val (.int p3), .val (.int s0), .val (.int s1), .val (.int s2), .val (.int (1 : Int32)), .val (.int w0), .val (.int w1), .val (.int w2), .val (.int w3), .val (.int (1 : Int32)), .val (.ref x203), .val (.ref x206), .val (.int (0 : Int32)), .unset, .unset]) rfl ?_
          refine o_ild X206 H at_262 rfl ?_
          refine o_ifY X206 H at_264 ((if0 _ _).trans (feq (by decide : ¬ ((1 : Int32) = (0 : Int32)))).2) (pc' := 272) (by decide) (by decide) ?_
          refine o_ild X206 H at_272 rfl ?_
          refine o_ic X206 H at_274 (v := 1) rfl ?_
          refine o_icN X206 H at_275 (teq (by decide : (1 : Int32) = (1 : Int32))).2 ?_
          refine o_ild X206 H at_278 rfl ?_
          refine o_go X206 H at_280 (pc' := 296) (by decide) (by decide) ?_
          refine o_ist X206 H at_296 (L' := #[.val (.int p1), .val (.int p2), .val (.int p3), .val (.int s0), .val (.int s1), .val (.int s2), .val (.int (1 : Int32)), .val (.int w0), .val (.int w1), .val (.int w2), .val (.int w3), .val (.int (1 : Int32)), .val (.ref x203), .val (.ref x206), .val (.int (0 : Int32)), .val (.int w1), .unset]) rfl ?_
          refine o_ild X206 H at_298 rfl ?_
          refine o_ild X206 H at_300 rfl ?_
          refine o_icN X206 H at_302 (flt (by decide : ¬ ((1 : Int32) < (1 : Int32)))).1 ?_
          refine o_ild X206 H at_305 rfl ?_
          refine o_ifY X206 H at_307 ((if0 _ _).trans (teq (by decide : (0 : Int32) = (0 : Int32))).1) (pc' := 328) (by decide) (by decide) ?_
          refine o_ic X206 H at_328 (v := 0) rfl ?_
          refine o_ist X206 H at_329 (L' := #[.val (.int p1), .val (.int p2), .val (.int p3), .val (.int s0), .val (.int s1), .val (.int s2), .val (.int (1 : Int32)), .val (.int w0), .val (.int w1), .val (.int w2), .val (.int w3), .val (.int (1 : Int32)), .val (.ref x203), .val (.ref x206), .val (.int (0 : Int32)), .val (.int w1), .val (.int (0 : Int32))]) rfl ?_
          exact PT _ _ _ _ _ _ _ _ _ _ _ _ _ _ x206 t206 x203 t203 kt206 kt203 1 1 [w0] [s0] _ rfl rfl (by decide) (by decide) (List.forall_mem_cons.mpr ⟨rw0, fun _ q => nomatch q⟩) (List.forall_mem_cons.mpr ⟨rs0, fun _ q => nomatch q⟩) (Or.inr ⟨rfl, fun u => absurd (((own_U_1_1 w0 s0).mp u)) hc207⟩) T206 _ _ _ _ (X206.more (by decide) (by decide)) rfl N206 hS0 hZ hown (CHv.keep K206 sf0 (CHv.keep K203 sf0 CH0)) (CHr.trans (CHr.trans (CHr.refl CH0) (CHr.keep K203 sf0 CH0)) (CHr.keep K206 sf0 (CHv.keep K203 sf0 CH0))) (Nat.le_trans (Nat.le_trans (Nat.zero_le _) K203.1) K206.1) (Nat.le_trans (Nat.le_trans Z0 K203.1) K206.1) ((O.keep K203 all0).keep K206 all0) Eq206 Cq206 Vq206 Aq206 (Eq203.keep K206) (Cq203.keep K206 nin0) (Vq203.keep K206 nin0) (Aq203.keep K206 nin0)
      · rw [hm]
        show own_Fin p e below _ (T203.setTop (mkF m 202 #[.val (.int p1), .val (.int p2), .val (.int p3), .val (.int s0), .val (.int s1), .val (.int s2), .val (.int (1 : Int32)), .val (.int w0), .val (.int w1), .val (.int w2), .val (.int w3), .val (.int (2 : Int32)), .val (.ref x203), .unset, .unset, .unset, .unset] []))
        refine o_ild X203 H at_202 rfl ?_
        refine o_ild X203 H at_204 rfl ?_
        refine o_ild X203 H at_206 rfl ?_
        refine o_ild X203 H at_208 rfl ?_
        refine o_ild X203 H at_210 rfl ?_
        refine o_tc (argsL := [(.int w0), (.int w1), (.int w2), (.int w3), (.int (2 : Int32))]) (rest := []) X203 H hml hZ hown (ow hw 0 rfl) (ow hw 1 rfl) (ow hw 2 rfl) (ow hw 3 rfl) (backOf (W := 0) (rmMk2 l Z a0 hw [] w0 w1 w2 w3 z T203.heap n0 (by exact (Nat.le_trans Z0 K203.1)) rw0 rw1 rw2 rw3 hz (O.keep K203 all0) SC) hZ (ow hw 3 rfl) (ow hw 2 rfl) (by decide) (by decide)) (by decide) rfl pd_24 at_212 rfl rfl rfl rfl rfl (by decide) (by decide) fun _ T208 Lc208 X208 hQ208 => ?_
        obtain ⟨x208, t208, kt208, rfl, N208q, K208, Eq208, Cq208, Vq208, Aq208⟩ := hQ208
        have N208 := Fr.app N203 N208q
        show own_Fin p e below _ (T208.setTop (mkF m 215 #[.val (.int p1), .val (.int p2), .val (.int p3), .val (.int s0), .val (.int s1), .val (.int s2), .val (.int (1 : Int32)), .val (.int w0), .val (.int w1), .val (.int w2), .val (.int w3), .val (.int (2 : Int32)), .val (.ref x203), .unset, .unset, .unset, .unset] [(.ref x208)]))
        refine o_ast X208 H at_215 (L' := #[.val (.int p1), .val (.int p2), .val (.int p3), .val (.int s0), .val (.int s1), .val (.int s2), .val (.int (1 : Int32)), .val (.int w0), .val (.int w1), .val (.int w2), .val (.int w3), .val (.int (2 : Int32)), .val (.ref x203), .val (.ref x208), .unset, .unset, .unset]) rfl rfl ?_
        refine o_ild X208 H at_217 rfl ?_
        refine o_ic X208 H at_219 (v := 1) rfl ?_
        refine o_icN X208 H at_220 (flt (by decide : ¬ ((1 : Int32) < (1 : Int32)))).1 ?_
        refine o_ild X208 H at_223 rfl ?_
        refine o_ildN X208 H at_225 rfl ?_
        by_cases hc209 : w0 = s0
        · refine o_icN X208 H at_226 (teq hc209).2 ?_
          refine o_ild X208 H at_229 rfl ?_
          refine o_ic X208 H at_231 (v := 2) rfl ?_
          refine o_icY X208 H at_232 (tlt (by decide : (1 : Int32) < (2 : Int32))).1 (pc' := 242) (by decide) (by decide) ?_
          refine o_ild X208 H at_242 rfl ?_
          refine o_ic X208 H at_244 (v := 3) rfl ?_
          refine o_icY X208 H at_245 (tlt (by decide : (1 : Int32) < (3 : Int32))).1 (pc' := 255) (by decide) (by decide) ?_
          refine o_ic X208 H at_255 (v := 1) rfl ?_
          refine o_go X208 H at_256 (pc' := 260) (by decide) (by decide) ?_
          refine o_ist X208 H at_260 (L' := #[.val (.int p1), .val (.int p2), .val (.int p3), .val (.int s0), .val (.int s1), .val (.int s2), .val (.int (1 : Int32)), .val (.int w0), .val (.int w1), .val (.int w2), .val (.int w3), .val (.int (2 : Int32)), .val (.ref x203), .val (.ref x208), .val (.int (1 : Int32)), .unset, .unset]) rfl ?_
          refine o_ild X208 H at_262 rfl ?_
          refine o_ifY X208 H at_264 ((if0 _ _).trans (feq (by decide : ¬ ((1 : Int32) = (0 : Int32)))).2) (pc' := 272) (by decide) (by decide) ?_
          refine o_ild X208 H at_272 rfl ?_
          refine o_ic X208 H at_274 (v := 1) rfl ?_
          refine o_icN X208 H at_275 (teq (by decide : (1 : Int32) = (1 : Int32))).2 ?_
          refine o_ild X208 H at_278 rfl ?_
          refine o_go X208 H at_280 (pc' := 296) (by decide) (by decide) ?_
          refine o_ist X208 H at_296 (L' := #[.val (.int p1), .val (.int p2), .val (.int p3), .val (.int s0), .val (.int s1), .val (.int s2), .val (.int (1 : Int32)), .val (.int w0), .val (.int w1), .val (.int w2), .val (.int w3), .val (.int (2 : Int32)), .val (.ref x203), .val (.ref x208), .val (.int (1 : Int32)), .val (.int w1), .unset]) rfl ?_
          refine o_ild X208 H at_298 rfl ?_
          refine o_ild X208 H at_300 rfl ?_
          refine o_icN X208 H at_302 (flt (by decide : ¬ ((2 : Int32) < (1 : Int32)))).1 ?_
          refine o_ild X208 H at_305 rfl ?_
          refine o_ifN X208 H at_307 ((if0 _ _).trans (feq (by decide : ¬ ((1 : Int32) = (0 : Int32)))).1) ?_
          refine o_ild X208 H at_310 rfl ?_
          refine o_ild X208 H at_312 rfl ?_
          refine o_icN X208 H at_314 (feq (by decide : ¬ ((2 : Int32) = (1 : Int32)))).1 ?_
          refine o_ild X208 H at_317 rfl ?_
          refine o_bi X208 H at_319 (v := 40) rfl ?_
          by_cases hc210 : w1 = (40 : Int32)
          · refine o_icN X208 H at_321 (teq hc210).2 ?_
            refine o_ic X208 H at_324 (v := 1) rfl ?_
            refine o_go X208 H at_325 (pc' := 329) (by decide) (by decide) ?_
            refine o_ist X208 H at_329 (L' := #[.val (.int p1), .val (.int p2), .val (.int p3), .val (.int s0), .val (.int s1), .val (.int s2), .val (.int (1 : Int32)), .val (.int w0), .val (.int w1), .val (.int w2), .val (.int w3), .val (.int (2 : Int32)), .val (.ref x203), .val (.ref x208), .val (.int (1 : Int32)), .val (.int w1), .val (.int (1 : Int32))]) rfl ?_
            exact PT _ _ _ _ _ _ _ _ _ _ _ _ _ _ x208 t208 x203 t203 kt208 kt203 2 1 [w0, w1] [s0] _ rfl rfl (by decide) (by decide) (List.forall_mem_cons.mpr ⟨rw0, List.forall_mem_cons.mpr ⟨rw1, fun _ q => nomatch q⟩⟩) (List.forall_mem_cons.mpr ⟨rs0, fun _ q => nomatch q⟩) (Or.inl ⟨rfl, (own_U_2_1 w0 w1 s0).mpr ⟨hc209, hc210⟩⟩) T208 _ _ _ _ (X208.more (by decide) (by decide)) rfl N208 hS0 hZ hown (CHv.keep K208 sf0 (CHv.keep K203 sf0 CH0)) (CHr.trans (CHr.trans (CHr.refl CH0) (CHr.keep K203 sf0 CH0)) (CHr.keep K208 sf0 (CHv.keep K203 sf0 CH0))) (Nat.le_trans (Nat.le_trans (Nat.zero_le _) K203.1) K208.1) (Nat.le_trans (Nat.le_trans Z0 K203.1) K208.1) ((O.keep K203 all0).keep K208 all0) Eq208 Cq208 Vq208 Aq208 (Eq203.keep K208) (Cq203.keep K208 nin0) (Vq203.keep K208 nin0) (Aq203.keep K208 nin0)
          · refine o_icY X208 H at_321 (feq hc210).2 (pc' := 328) (by decide) (by decide) ?_
            refine o_ic X208 H at_328 (v := 0) rfl ?_
            refine o_ist X208 H at_329 (L' := #[.val (.int p1), .val (.int p2), .val (.int p3), .val (.int s0), .val (.int s1), .val (.int s2), .val (.int (1 : Int32)), .val (.int w0), .val (.int w1), .val (.int w2), .val (.int w3), .val (.int (2 : Int32)), .val (.ref x203), .val (.ref x208), .val (.int (1 : Int32)), .val (.int w1), .val (.int (0 : Int32))]) rfl ?_
            exact PT _ _ _ _ _ _ _ _ _ _ _ _ _ _ x208 t208 x203 t203 kt208 kt203 2 1 [w0, w1] [s0] _ rfl rfl (by decide) (by decide) (List.forall_mem_cons.mpr ⟨rw0, List.forall_mem_cons.mpr ⟨rw1, fun _ q => nomatch q⟩⟩) (List.forall_mem_cons.mpr ⟨rs0, fun _ q => nomatch q⟩) (Or.inr ⟨rfl, fun u => absurd (((own_U_2_1 w0 w1 s0).mp u).2) hc210⟩) T208 _ _ _ _ (X208.more (by decide) (by decide)) rfl N208 hS0 hZ hown (CHv.keep K208 sf0 (CHv.keep K203 sf0 CH0)) (CHr.trans (CHr.trans (CHr.refl CH0) (CHr.keep K203 sf0 CH0)) (CHr.keep K208 sf0 (CHv.keep K203 sf0 CH0))) (Nat.le_trans (Nat.le_trans (Nat.zero_le _) K203.1) K208.1) (Nat.le_trans (Nat.le_trans Z0 K203.1) K208.1) ((O.keep K203 all0).keep K208 all0) Eq208 Cq208 Vq208 Aq208 (Eq203.keep K208) (Cq203.keep K208 nin0) (Vq203.keep K208 nin0) (Aq203.keep K208 nin0)
        · refine o_icY X208 H at_226 (feq hc209).2 (pc' := 259) (by decide) (by decide) ?_
          refine o_ic X208 H at_259 (v := 0) rfl ?_
          refine o_ist X208 H at_260 (L' := #[.val (.int p1), .val (.int p2), .val (.int p3), .val (.int s0), .val (.int s1), .val (.int s2), .val (.int (1 : Int32)), .val (.int w0), .val (.int w1), .val (.int w2), .val (.int w3), .val (.int (2 : Int32)), .val (.ref x203), .val (.ref x208), .val (.int (0 : Int32)), .unset, .unset]) rfl ?_
          refine o_ild X208 H at_262 rfl ?_
          refine o_ifY X208 H at_264 ((if0 _ _).trans (feq (by decide : ¬ ((1 : Int32) = (0 : Int32)))).2) (pc' := 272) (by decide) (by decide) ?_
          refine o_ild X208 H at_272 rfl ?_
          refine o_ic X208 H at_274 (v := 1) rfl ?_
          refine o_icN X208 H at_275 (teq (by decide : (1 : Int32) = (1 : Int32))).2 ?_
          refine o_ild X208 H at_278 rfl ?_
          refine o_go X208 H at_280 (pc' := 296) (by decide) (by decide) ?_
          refine o_ist X208 H at_296 (L' := #[.val (.int p1), .val (.int p2), .val (.int p3), .val (.int s0), .val (.int s1), .val (.int s2), .val (.int (1 : Int32)), .val (.int w0), .val (.int w1), .val (.int w2), .val (.int w3), .val (.int (2 : Int32)), .val (.ref x203), .val (.ref x208), .val (.int (0 : Int32)), .val (.int w1), .unset]) rfl ?_
          refine o_ild X208 H at_298 rfl ?_
          refine o_ild X208 H at_300 rfl ?_
          refine o_icN X208 H at_302 (flt (by decide : ¬ ((2 : Int32) < (1 : Int32)))).1 ?_
          refine o_ild X208 H at_305 rfl ?_
          refine o_ifY X208 H at_307 ((if0 _ _).trans (teq (by decide : (0 : Int32) = (0 : Int32))).1) (pc' := 328) (by decide) (by decide) ?_
          refine o_ic X208 H at_328 (v := 0) rfl ?_
          refine o_ist X208 H at_329 (L' := #[.val (.int p1), .val (.int p2), .val (.int p3), .val (.int s0), .val (.int s1), .val (.int s2), .val (.int (1 : Int32)), .val (.int w0), .val (.int w1), .val (.int w2), .val (.int w3), .val (.int (2 : Int32)), .val (.ref x203), .val (.ref x208), .val (.int (0 : Int32)), .val (.int w1), .val (.int (0 : Int32))]) rfl ?_
          exact PT _ _ _ _ _ _ _ _ _ _ _ _ _ _ x208 t208 x203 t203 kt208 kt203 2 1 [w0, w1] [s0] _ rfl rfl (by decide) (by decide) (List.forall_mem_cons.mpr ⟨rw0, List.forall_mem_cons.mpr ⟨rw1, fun _ q => nomatch q⟩⟩) (List.forall_mem_cons.mpr ⟨rs0, fun _ q => nomatch q⟩) (Or.inr ⟨rfl, fun u => absurd (((own_U_2_1 w0 w1 s0).mp u).1) hc209⟩) T208 _ _ _ _ (X208.more (by decide) (by decide)) rfl N208 hS0 hZ hown (CHv.keep K208 sf0 (CHv.keep K203 sf0 CH0)) (CHr.trans (CHr.trans (CHr.refl CH0) (CHr.keep K203 sf0 CH0)) (CHr.keep K208 sf0 (CHv.keep K203 sf0 CH0))) (Nat.le_trans (Nat.le_trans (Nat.zero_le _) K203.1) K208.1) (Nat.le_trans (Nat.le_trans Z0 K203.1) K208.1) ((O.keep K203 all0).keep K208 all0) Eq208 Cq208 Vq208 Aq208 (Eq203.keep K208) (Cq203.keep K208 nin0) (Vq203.keep K208 nin0) (Aq203.keep K208 nin0)
      · rw [hm]
        show own_Fin p e below _ (T203.setTop (mkF m 202 #[.val (.int p1), .val (.int p2), .val (.int p3), .val (.int s0), .val (.int s1), .val (.int s2), .val (.int (1 : Int32)), .val (.int w0), .val (.int w1), .val (.int w2), .val (.int w3), .val (.int (3 : Int32)), .val (.ref x203), .unset, .unset, .unset, .unset] []))
        refine o_ild X203 H at_202 rfl ?_
        refine o_ild X203 H at_204 rfl ?_
        refine o_ild X203 H at_206 rfl ?_
        refine o_ild X203 H at_208 rfl ?_
        refine o_ild X203 H at_210 rfl ?_
        refine o_tc (argsL := [(.int w0), (.int w1), (.int w2), (.int w3), (.int (3 : Int32))]) (rest := []) X203 H hml hZ hown (ow hw 0 rfl) (ow hw 1 rfl) (ow hw 2 rfl) (ow hw 3 rfl) (backOf (W := 0) (rmMk3 l Z a0 hw [] w0 w1 w2 w3 z T203.heap n0 (by exact (Nat.le_trans Z0 K203.1)) rw0 rw1 rw2 rw3 hz (O.keep K203 all0) SC) hZ (ow hw 3 rfl) (ow hw 2 rfl) (by decide) (by decide)) (by decide) rfl pd_24 at_212 rfl rfl rfl rfl rfl (by decide) (by decide) fun _ T211 Lc211 X211 hQ211 => ?_
        obtain ⟨x211, t211, kt211, rfl, N211q, K211, Eq211, Cq211, Vq211, Aq211⟩ := hQ211
        have N211 := Fr.app N203 N211q
        show own_Fin p e below _ (T211.setTop (mkF m 215 #[.val (.int p1), .val (.int p2), .val (.int p3), .val (.int s0), .val (.int s1), .val (.int s2), .val (.int (1 : Int32)), .val (.int w0), .val (.int w1), .val (.int w2), .val (.int w3), .val (.int (3 : Int32)), .val (.ref x203), .unset, .unset, .unset, .unset] [(.ref x211)]))
        refine o_ast X211 H at_215 (L' := #[.val (.int p1), .val (.int p2), .val (.int p3), .val (.int s0), .val (.int s1), .val (.int s2), .val (.int (1 : Int32)), .val (.int w0), .val (.int w1), .val (.int w2), .val (.int w3), .val (.int (3 : Int32)), .val (.ref x203), .val (.ref x211), .unset, .unset, .unset]) rfl rfl ?_
        refine o_ild X211 H at_217 rfl ?_
        refine o_ic X211 H at_219 (v := 1) rfl ?_
        refine o_icN X211 H at_220 (flt (by decide : ¬ ((1 : Int32) < (1 : Int32)))).1 ?_
        refine o_ild X211 H at_223 rfl ?_
        refine o_ildN X211 H at_225 rfl ?_
        by_cases hc212 : w0 = s0
        · refine o_icN X211 H at_226 (teq hc212).2 ?_
          refine o_ild X211 H at_229 rfl ?_
          refine o_ic X211 H at_231 (v := 2) rfl ?_
          refine o_icY X211 H at_232 (tlt (by decide : (1 : Int32) < (2 : Int32))).1 (pc' := 242) (by decide) (by decide) ?_
          refine o_ild X211 H at_242 rfl ?_
          refine o_ic X211 H at_244 (v := 3) rfl ?_
          refine o_icY X211 H at_245 (tlt (by decide : (1 : Int32) < (3 : Int32))).1 (pc' := 255) (by decide) (by decide) ?_
          refine o_ic X211 H at_255 (v := 1) rfl ?_
          refine o_go X211 H at_256 (pc' := 260) (by decide) (by decide) ?_
          refine o_ist X211 H at_260 (L' := #[.val (.int p1), .val (.int p2), .val (.int p3), .val (.int s0), .val (.int s1), .val (.int s2), .val (.int (1 : Int32)), .val (.int w0), .val (.int w1), .val (.int w2), .val (.int w3), .val (.int (3 : Int32)), .val (.ref x203), .val (.ref x211), .val (.int (1 : Int32)), .unset, .unset]) rfl ?_
          refine o_ild X211 H at_262 rfl ?_
          refine o_ifY X211 H at_264 ((if0 _ _).trans (feq (by decide : ¬ ((1 : Int32) = (0 : Int32)))).2) (pc' := 272) (by decide) (by decide) ?_
          refine o_ild X211 H at_272 rfl ?_
          refine o_ic X211 H at_274 (v := 1) rfl ?_
          refine o_icN X211 H at_275 (teq (by decide : (1 : Int32) = (1 : Int32))).2 ?_
          refine o_ild X211 H at_278 rfl ?_
          refine o_go X211 H at_280 (pc' := 296) (by decide) (by decide) ?_
          refine o_ist X211 H at_296 (L' := #[.val (.int p1), .val (.int p2), .val (.int p3), .val (.int s0), .val (.int s1), .val (.int s2), .val (.int (1 : Int32)), .val (.int w0), .val (.int w1), .val (.int w2), .val (.int w3), .val (.int (3 : Int32)), .val (.ref x203), .val (.ref x211), .val (.int (1 : Int32)), .val (.int w1), .unset]) rfl ?_
          refine o_ild X211 H at_298 rfl ?_
          refine o_ild X211 H at_300 rfl ?_
          refine o_icN X211 H at_302 (flt (by decide : ¬ ((3 : Int32) < (1 : Int32)))).1 ?_
          refine o_ild X211 H at_305 rfl ?_
          refine o_ifN X211 H at_307 ((if0 _ _).trans (feq (by decide : ¬ ((1 : Int32) = (0 : Int32)))).1) ?_
          refine o_ild X211 H at_310 rfl ?_
          refine o_ild X211 H at_312 rfl ?_
          refine o_icN X211 H at_314 (feq (by decide : ¬ ((3 : Int32) = (1 : Int32)))).1 ?_
          refine o_ild X211 H at_317 rfl ?_
          refine o_bi X211 H at_319 (v := 40) rfl ?_
          by_cases hc213 : w1 = (40 : Int32)
          · refine o_icN X211 H at_321 (teq hc213).2 ?_
            refine o_ic X211 H at_324 (v := 1) rfl ?_
            refine o_go X211 H at_325 (pc' := 329) (by decide) (by decide) ?_
            refine o_ist X211 H at_329 (L' := #[.val (.int p1), .val (.int p2), .val (.int p3), .val (.int s0), .val (.int s1), .val (.int s2), .val (.int (1 : Int32)), .val (.int w0), .val (.int w1), .val (.int w2), .val (.int w3), .val (.int (3 : Int32)), .val (.ref x203), .val (.ref x211), .val (.int (1 : Int32)), .val (.int w1), .val (.int (1 : Int32))]) rfl ?_
            exact PT _ _ _ _ _ _ _ _ _ _ _ _ _ _ x211 t211 x203 t203 kt211 kt203 3 1 [w0, w1, w2] [s0] _ rfl rfl (by decide) (by decide) (List.forall_mem_cons.mpr ⟨rw0, List.forall_mem_cons.mpr ⟨rw1, List.forall_mem_cons.mpr ⟨rw2, fun _ q => nomatch q⟩⟩⟩) (List.forall_mem_cons.mpr ⟨rs0, fun _ q => nomatch q⟩) (Or.inl ⟨rfl, (own_U_3_1 w0 w1 w2 s0).mpr ⟨hc212, hc213⟩⟩) T211 _ _ _ _ (X211.more (by decide) (by decide)) rfl N211 hS0 hZ hown (CHv.keep K211 sf0 (CHv.keep K203 sf0 CH0)) (CHr.trans (CHr.trans (CHr.refl CH0) (CHr.keep K203 sf0 CH0)) (CHr.keep K211 sf0 (CHv.keep K203 sf0 CH0))) (Nat.le_trans (Nat.le_trans (Nat.zero_le _) K203.1) K211.1) (Nat.le_trans (Nat.le_trans Z0 K203.1) K211.1) ((O.keep K203 all0).keep K211 all0) Eq211 Cq211 Vq211 Aq211 (Eq203.keep K211) (Cq203.keep K211 nin0) (Vq203.keep K211 nin0) (Aq203.keep K211 nin0)
          · refine o_icY X211 H at_321 (feq hc213).2 (pc' := 328) (by decide) (by decide) ?_
            refine o_ic X211 H at_328 (v := 0) rfl ?_
            refine o_ist X211 H at_329 (L' := #[.val (.int p1), .val (.int p2), .val (.int p3), .val (.int s0), .val (.int s1), .val (.int s2), .val (.int (1 : Int32)), .val (.int w0), .val (.int w1), .val (.int w2), .val (.int w3), .val (.int (3 : Int32)), .val (.ref x203), .val (.ref x211), .val (.int (1 : Int32)), .val (.int w1), .val (.int (0 : Int32))]) rfl ?_
            exact PT _ _ _ _ _ _ _ _ _ _ _ _ _ _ x211 t211 x203 t203 kt211 kt203 3 1 [w0, w1, w2] [s0] _ rfl rfl (by decide) (by decide) (List.forall_mem_cons.mpr ⟨rw0, List.forall_mem_cons.mpr ⟨rw1, List.forall_mem_cons.mpr ⟨rw2, fun _ q => nomatch q⟩⟩⟩) (List.forall_mem_cons.mpr ⟨rs0, fun _ q => nomatch q⟩) (Or.inr ⟨rfl, fun u => absurd (((own_U_3_1 w0 w1 w2 s0).mp u).2) hc213⟩) T211 _ _ _ _ (X211.more (by decide) (by decide)) rfl N211 hS0 hZ hown (CHv.keep K211 sf0 (CHv.keep K203 sf0 CH0)) (CHr.trans (CHr.trans (CHr.refl CH0) (CHr.keep K203 sf0 CH0)) (CHr.keep K211 sf0 (CHv.keep K203 sf0 CH0))) (Nat.le_trans (Nat.le_trans (Nat.zero_le _) K203.1) K211.1) (Nat.le_trans (Nat.le_trans Z0 K203.1) K211.1) ((O.keep K203 all0).keep K211 all0) Eq211 Cq211 Vq211 Aq211 (Eq203.keep K211) (Cq203.keep K211 nin0) (Vq203.keep K211 nin0) (Aq203.keep K211 nin0)
        · refine o_icY X211 H at_226 (feq hc212).2 (pc' := 259) (by decide) (by decide) ?_
          refine o_ic X211 H at_259 (v := 0) rfl ?_
          refine o_ist X211 H at_260 (L' := #[.val (.int p1), .val (.int p2), .val (.int p3), .val (.int s0), .val (.int s1), .val (.int s2), .val (.int (1 : Int32)), .val (.int w0), .val (.int w1), .val (.int w2), .val (.int w3), .val (.int (3 : Int32)), .val (.ref x203), .val (.ref x211), .val (.int (0 : Int32)), .unset, .unset]) rfl ?_
          refine o_ild X211 H at_262 rfl ?_
          refine o_ifY X211 H at_264 ((if0 _ _).trans (feq (by decide : ¬ ((1 : Int32) = (0 : Int32)))).2) (pc' := 272) (by decide) (by decide) ?_
          refine o_ild X211 H at_272 rfl ?_
          refine o_ic X211 H at_274 (v := 1) rfl ?_
          refine o_icN X211 H at_275 (teq (by decide : (1 : Int32) = (1 : Int32))).2 ?_
          refine o_ild X211 H at_278 rfl ?_
          refine o_go X211 H at_280 (pc' := 296) (by decide) (by decide) ?_
          refine o_ist X211 H at_296 (L' := #[.val (.int p1), .val (.int p2), .val (.int p3), .val (.int s0), .val (.int s1), .val (.int s2), .val (.int (1 : Int32)), .val (.int w0), .val (.int w1), .val (.int w2), .val (.int w3), .val (.int (3 : Int32)), .val (.ref x203), .val (.ref x211), .val (.int (0 : Int32)), .val (.int w1), .unset]) rfl ?_
          refine o_ild X211 H at_298 rfl ?_
          refine o_ild X211 H at_300 rfl ?_
          refine o_icN X211 H at_302 (flt (by decide : ¬ ((3 : Int32) < (1 : Int32)))).1 ?_
          refine o_ild X211 H at_305 rfl ?_
          refine o_ifY X211 H at_307 ((if0 _ _).trans (teq (by decide : (0 : Int32) = (0 : Int32))).1) (pc' := 328) (by decide) (by decide) ?_
          refine o_ic X211 H at_328 (v := 0) rfl ?_
          refine o_ist X211 H at_329 (L' := #[.val (.int p1), .val (.int p2), .val (.int p3), .val (.int s0), .val (.int s1), .val (.int s2), .val (.int (1 : Int32)), .val (.int w0), .val (.int w1), .val (.int w2), .val (.int w3), .val (.int (3 : Int32)), .val (.ref x203), .val (.ref x211), .val (.int (0 : Int32)), .val (.int w1), .val (.int (0 : Int32))]) rfl ?_
          exact PT _ _ _ _ _ _ _ _ _ _ _ _ _ _ x211 t211 x203 t203 kt211 kt203 3 1 [w0, w1, w2] [s0] _ rfl rfl (by decide) (by decide) (List.forall_mem_cons.mpr ⟨rw0, List.forall_mem_cons.mpr ⟨rw1, List.forall_mem_cons.mpr ⟨rw2, fun _ q => nomatch q⟩⟩⟩) (List.forall_mem_cons.mpr ⟨rs0, fun _ q => nomatch q⟩) (Or.inr ⟨rfl, fun u => absurd (((own_U_3_1 w0 w1 w2 s0).mp u).1) hc212⟩) T211 _ _ _ _ (X211.more (by decide) (by decide)) rfl N211 hS0 hZ hown (CHv.keep K211 sf0 (CHv.keep K203 sf0 CH0)) (CHr.trans (CHr.trans (CHr.refl CH0) (CHr.keep K203 sf0 CH0)) (CHr.keep K211 sf0 (CHv.keep K203 sf0 CH0))) (Nat.le_trans (Nat.le_trans (Nat.zero_le _) K203.1) K211.1) (Nat.le_trans (Nat.le_trans Z0 K203.1) K211.1) ((O.keep K203 all0).keep K211 all0) Eq211 Cq211 Vq211 Aq211 (Eq203.keep K211) (Cq203.keep K211 nin0) (Vq203.keep K211 nin0) (Aq203.keep K211 nin0)
      · rw [hm]
        show own_Fin p e below _ (T203.setTop (mkF m 202 #[.val (.int p1), .val (.int p2), .val (.int p3), .val (.int s0), .val (.int s1), .val (.int s2), .val (.int (1 : Int32)), .val (.int w0), .val (.int w1), .val (.int w2), .val (.int w3), .val (.int (4 : Int32)), .val (.ref x203), .unset, .unset, .unset, .unset] []))
        refine o_ild X203 H at_202 rfl ?_
        refine o_ild X203 H at_204 rfl ?_
        refine o_ild X203 H at_206 rfl ?_
        refine o_ild X203 H at_208 rfl ?_
        refine o_ild X203 H at_210 rfl ?_
        refine o_tc (argsL := [(.int w0), (.int w1), (.int w2), (.int w3), (.int (4 : Int32))]) (rest := []) X203 H hml hZ hown (ow hw 0 rfl) (ow hw 1 rfl) (ow hw 2 rfl) (ow hw 3 rfl) (backOf (W := 0) (rmMk4 l Z a0 hw [] w0 w1 w2 w3 z T203.heap n0 (by exact (Nat.le_trans Z0 K203.1)) rw0 rw1 rw2 rw3 hz (O.keep K203 all0) SC) hZ (ow hw 3 rfl) (ow hw 2 rfl) (by decide) (by decide)) (by decide) rfl pd_24 at_212 rfl rfl rfl rfl rfl (by decide) (by decide) fun _ T214 Lc214 X214 hQ214 => ?_
        obtain ⟨x214, t214, kt214, rfl, N214q, K214, Eq214, Cq214, Vq214, Aq214⟩ := hQ214
        have N214 := Fr.app N203 N214q
        show own_Fin p e below _ (T214.setTop (mkF m 215 #[.val (.int p1), .val (.int p2), .val (.int p3), .val (.int s0), .val (.int s1), .val (.int s2), .val (.int (1 : Int32)), .val (.int w0), .val (.int w1), .val (.int w2), .val (.int w3), .val (.int (4 : Int32)), .val (.ref x203), .unset, .unset, .unset, .unset] [(.ref x214)]))
        refine o_ast X214 H at_215 (L' := #[.val (.int p1), .val (.int p2), .val (.int p3), .val (.int s0), .val (.int s1), .val (.int s2), .val (.int (1 : Int32)), .val (.int w0), .val (.int w1), .val (.int w2), .val (.int w3), .val (.int (4 : Int32)), .val (.ref x203), .val (.ref x214), .unset, .unset, .unset]) rfl rfl ?_
        refine o_ild X214 H at_217 rfl ?_
        refine o_ic X214 H at_219 (v := 1) rfl ?_
        refine o_icN X214 H at_220 (flt (by decide : ¬ ((1 : Int32) < (1 : Int32)))).1 ?_
        refine o_ild X214 H at_223 rfl ?_
        refine o_ildN X214 H at_225 rfl ?_
        by_cases hc215 : w0 = s0
        · refine o_icN X214 H at_226 (teq hc215).2 ?_
          refine o_ild X214 H at_229 rfl ?_
          refine o_ic X214 H at_231 (v := 2) rfl ?_
          refine o_icY X214 H at_232 (tlt (by decide : (1 : Int32) < (2 : Int32))).1 (pc' := 242) (by decide) (by decide) ?_
          refine o_ild X214 H at_242 rfl ?_
          refine o_ic X214 H at_244 (v := 3) rfl ?_
          refine o_icY X214 H at_245 (tlt (by decide : (1 : Int32) < (3 : Int32))).1 (pc' := 255) (by decide) (by decide) ?_
          refine o_ic X214 H at_255 (v := 1) rfl ?_
          refine o_go X214 H at_256 (pc' := 260) (by decide) (by decide) ?_
          refine o_ist X214 H at_260 (L' := #[.val (.int p1), .val (.int p2), .val (.int p3), .val (.int s0), .val (.int s1), .val (.int s2), .val (.int (1 : Int32)), .val (.int w0), .val (.int w1), .val (.int w2), .val (.int w3), .val (.int (4 : Int32)), .val (.ref x203), .val (.ref x214), .val (.int (1 : Int32)), .unset, .unset]) rfl ?_
          refine o_ild X214 H at_262 rfl ?_
          refine o_ifY X214 H at_264 ((if0 _ _).trans (feq (by decide : ¬ ((1 : Int32) = (0 : Int32)))).2) (pc' := 272) (by decide) (by decide) ?_
          refine o_ild X214 H at_272 rfl ?_
          refine o_ic X214 H at_274 (v := 1) rfl ?_
          refine o_icN X214 H at_275 (teq (by decide : (1 : Int32) = (1 : Int32))).2 ?_
          refine o_ild X214 H at_278 rfl ?_
          refine o_go X214 H at_280 (pc' := 296) (by decide) (by decide) ?_
          refine o_ist X214 H at_296 (L' := #[.val (.int p1), .val (.int p2), .val (.int p3), .val (.int s0), .val (.int s1), .val (.int s2), .val (.int (1 : Int32)), .val (.int w0), .val (.int w1), .val (.int w2), .val (.int w3), .val (.int (4 : Int32)), .val (.ref x203), .val (.ref x214), .val (.int (1 : Int32)), .val (.int w1), .unset]) rfl ?_
          refine o_ild X214 H at_298 rfl ?_
          refine o_ild X214 H at_300 rfl ?_
          refine o_icN X214 H at_302 (flt (by decide : ¬ ((4 : Int32) < (1 : Int32)))).1 ?_
          refine o_ild X214 H at_305 rfl ?_
          refine o_ifN X214 H at_307 ((if0 _ _).trans (feq (by decide : ¬ ((1 : Int32) = (0 : Int32)))).1) ?_
          refine o_ild X214 H at_310 rfl ?_
          refine o_ild X214 H at_312 rfl ?_
          refine o_icN X214 H at_314 (feq (by decide : ¬ ((4 : Int32) = (1 : Int32)))).1 ?_
          refine o_ild X214 H at_317 rfl ?_
          refine o_bi X214 H at_319 (v := 40) rfl ?_
          by_cases hc216 : w1 = (40 : Int32)
          · refine o_icN X214 H at_321 (teq hc216).2 ?_
            refine o_ic X214 H at_324 (v := 1) rfl ?_
            refine o_go X214 H at_325 (pc' := 329) (by decide) (by decide) ?_
            refine o_ist X214 H at_329 (L' := #[.val (.int p1), .val (.int p2), .val (.int p3), .val (.int s0), .val (.int s1), .val (.int s2), .val (.int (1 : Int32)), .val (.int w0), .val (.int w1), .val (.int w2), .val (.int w3), .val (.int (4 : Int32)), .val (.ref x203), .val (.ref x214), .val (.int (1 : Int32)), .val (.int w1), .val (.int (1 : Int32))]) rfl ?_
            exact PT _ _ _ _ _ _ _ _ _ _ _ _ _ _ x214 t214 x203 t203 kt214 kt203 4 1 [w0, w1, w2, w3] [s0] _ rfl rfl (by decide) (by decide) (List.forall_mem_cons.mpr ⟨rw0, List.forall_mem_cons.mpr ⟨rw1, List.forall_mem_cons.mpr ⟨rw2, List.forall_mem_cons.mpr ⟨rw3, fun _ q => nomatch q⟩⟩⟩⟩) (List.forall_mem_cons.mpr ⟨rs0, fun _ q => nomatch q⟩) (Or.inl ⟨rfl, (own_U_4_1 w0 w1 w2 w3 s0).mpr ⟨hc215, hc216⟩⟩) T214 _ _ _ _ (X214.more (by decide) (by decide)) rfl N214 hS0 hZ hown (CHv.keep K214 sf0 (CHv.keep K203 sf0 CH0)) (CHr.trans (CHr.trans (CHr.refl CH0) (CHr.keep K203 sf0 CH0)) (CHr.keep K214 sf0 (CHv.keep K203 sf0 CH0))) (Nat.le_trans (Nat.le_trans (Nat.zero_le _) K203.1) K214.1) (Nat.le_trans (Nat.le_trans Z0 K203.1) K214.1) ((O.keep K203 all0).keep K214 all0) Eq214 Cq214 Vq214 Aq214 (Eq203.keep K214) (Cq203.keep K214 nin0) (Vq203.keep K214 nin0) (Aq203.keep K214 nin0)
          · refine o_icY X214 H at_321 (feq hc216).2 (pc' := 328) (by decide) (by decide) ?_
            refine o_ic X214 H at_328 (v := 0) rfl ?_
            refine o_ist X214 H at_329 (L' := #[.val (.int p1), .val (.int p2), .val (.int p3), .val (.int s0), .val (.int s1), .val (.int s2), .val (.int (1 : Int32)), .val (.int w0), .val (.int w1), .val (.int w2), .val (.int w3), .val (.int (4 : Int32)), .val (.ref x203), .val (.ref x214), .val (.int (1 : Int32)), .val (.int w1), .val (.int (0 : Int32))]) rfl ?_
            exact PT _ _ _ _ _ _ _ _ _ _ _ _ _ _ x214 t214 x203 t203 kt214 kt203 4 1 [w0, w1, w2, w3] [s0] _ rfl rfl (by decide) (by decide) (List.forall_mem_cons.mpr ⟨rw0, List.forall_mem_cons.mpr ⟨rw1, List.forall_mem_cons.mpr ⟨rw2, List.forall_mem_cons.mpr ⟨rw3, fun _ q => nomatch q⟩⟩⟩⟩) (List.forall_mem_cons.mpr ⟨rs0, fun _ q => nomatch q⟩) (Or.inr ⟨rfl, fun u => absurd (((own_U_4_1 w0 w1 w2 w3 s0).mp u).2) hc216⟩) T214 _ _ _ _ (X214.more (by decide) (by decide)) rfl N214 hS0 hZ hown (CHv.keep K214 sf0 (CHv.keep K203 sf0 CH0)) (CHr.trans (CHr.trans (CHr.refl CH0) (CHr.keep K203 sf0 CH0)) (CHr.keep K214 sf0 (CHv.keep K203 sf0 CH0))) (Nat.le_trans (Nat.le_trans (Nat.zero_le _) K203.1) K214.1) (Nat.le_trans (Nat.le_trans Z0 K203.1) K214.1) ((O.keep K203 all0).keep K214 all0) Eq214 Cq214 Vq214 Aq214 (Eq203.keep K214) (Cq203.keep K214 nin0) (Vq203.keep K214 nin0) (Aq203.keep K214 nin0)
        · refine o_icY X214 H at_226 (feq hc215).2 (pc' := 259) (by decide) (by decide) ?_
          refine o_ic X214 H at_259 (v := 0) rfl ?_
          refine o_ist X214 H at_260 (L' := #[.val (.int p1), .val (.int p2), .val (.int p3), .val (.int s0), .val (.int s1), .val (.int s2), .val (.int (1 : Int32)), .val (.int w0), .val (.int w1), .val (.int w2), .val (.int w3), .val (.int (4 : Int32)), .val (.ref x203), .val (.ref x214), .val (.int (0 : Int32)), .unset, .unset]) rfl ?_
          refine o_ild X214 H at_262 rfl ?_
          refine o_ifY X214 H at_264 ((if0 _ _).trans (feq (by decide : ¬ ((1 : Int32) = (0 : Int32)))).2) (pc' := 272) (by decide) (by decide) ?_
          refine o_ild X214 H at_272 rfl ?_
          refine o_ic X214 H at_274 (v := 1) rfl ?_
          refine o_icN X214 H at_275 (teq (by decide : (1 : Int32) = (1 : Int32))).2 ?_
          refine o_ild X214 H at_278 rfl ?_
          refine o_go X214 H at_280 (pc' := 296) (by decide) (by decide) ?_
          refine o_ist X214 H at_296 (L' := #[.val (.int p1), .val (.int p2), .val (.int p3), .val (.int s0), .val (.int s1), .val (.int s2), .val (.int (1 : Int32)), .val (.int w0), .val (.int w1), .val (.int w2), .val (.int w3), .val (.int (4 : Int32)), .val (.ref x203), .val (.ref x214), .val (.int (0 : Int32)), .val (.int w1), .unset]) rfl ?_
          refine o_ild X214 H at_298 rfl ?_
          refine o_ild X214 H at_300 rfl ?_
          refine o_icN X214 H at_302 (flt (by decide : ¬ ((4 : Int32) < (1 : Int32)))).1 ?_
          refine o_ild X214 H at_305 rfl ?_
          refine o_ifY X214 H at_307 ((if0 _ _).trans (teq (by decide : (0 : Int32) = (0 : Int32))).1) (pc' := 328) (by decide) (by decide) ?_
          refine o_ic X214 H at_328 (v := 0) rfl ?_
          refine o_ist X214 H at_329 (L' := #[.val (.int p1), .val (.int p2), .val (.int p3), .val (.int s0), .val (.int s1), .val (.int s2), .val (.int (1 : Int32)), .val (.int w0), .val (.int w1), .val (.int w2), .val (.int w3), .val (.int (4 : Int32)), .val (.ref x203), .val (.ref x214), .val (.int (0 : Int32)), .val (.int w1), .val (.int (0 : Int32))]) rfl ?_
          exact PT _ _ _ _ _ _ _ _ _ _ _ _ _ _ x214 t214 x203 t203 kt214 kt203 4 1 [w0, w1, w2, w3] [s0] _ rfl rfl (by decide) (by decide) (List.forall_mem_cons.mpr ⟨rw0, List.forall_mem_cons.mpr ⟨rw1, List.forall_mem_cons.mpr ⟨rw2, List.forall_mem_cons.mpr ⟨rw3, fun _ q => nomatch q⟩⟩⟩⟩) (List.forall_mem_cons.mpr ⟨rs0, fun _ q => nomatch q⟩) (Or.inr ⟨rfl, fun u => absurd (((own_U_4_1 w0 w1 w2 w3 s0).mp u).1) hc215⟩) T214 _ _ _ _ (X214.more (by decide) (by decide)) rfl N214 hS0 hZ hown (CHv.keep K214 sf0 (CHv.keep K203 sf0 CH0)) (CHr.trans (CHr.trans (CHr.refl CH0) (CHr.keep K203 sf0 CH0)) (CHr.keep K214 sf0 (CHv.keep K203 sf0 CH0))) (Nat.le_trans (Nat.le_trans (Nat.zero_le _) K203.1) K214.1) (Nat.le_trans (Nat.le_trans Z0 K203.1) K214.1) ((O.keep K203 all0).keep K214 all0) Eq214 Cq214 Vq214 Aq214 (Eq203.keep K214) (Cq203.keep K214 nin0) (Vq203.keep K214 nin0) (Aq203.keep K214 nin0)
    · show own_Fin p e below _ (s₁.setTop (mkF m 86 #[.val (.int p1), .val (.int p2), .val (.int p3), .val (.int s0), .val (.int s1), .val (.int s2), .val (.int (1 : Int32)), .val (.int k0), .val (.int k1), .val (.int k2), .val (.int k3), .val (.int cl), .unset, .unset, .unset, .unset, .unset] []))
      refine o_ildN X0 H at_86 rfl ?_
      refine o_ic X0 H at_87 (v := 3) rfl ?_
      refine own_on (fun tq => XS.iushr X0.here hx rfl (hb hby at_88) rfl) ?_
      show own_Fin p e below _ (s₁.setTop (mkF m 89 #[.val (.int p1), .val (.int p2), .val (.int p3), .val (.int s0), .val (.int s1), .val (.int s2), .val (.int (1 : Int32)), .val (.int k0), .val (.int k1), .val (.int k2), .val (.int k3), .val (.int cl), .unset, .unset, .unset, .unset, .unset] [(.int ((p3.toUInt32 >>> ((3 : Int32) &&& 31).toUInt32).toInt32))]))
      refine o_ic X0 H at_89 (v := 1) rfl ?_
      refine o_iand X0 H at_90 ?_
      by_cases hc217 : (((p3.toUInt32 >>> ((3 : Int32) &&& 31).toUInt32).toInt32) &&& (1 : Int32)) = (0 : Int32)
      · refine o_ifY X0 H at_91 ((if0 _ _).trans (teq hc217).1) (pc' := 102) (by decide) (by decide) ?_
        refine o_ildN X0 H at_102 rfl ?_
        refine o_ic X0 H at_103 (v := 4) rfl ?_
        refine own_on (fun tq => XS.iushr X0.here hx rfl (hb hby at_104) rfl) ?_
        show own_Fin p e below _ (s₁.setTop (mkF m 105 #[.val (.int p1), .val (.int p2), .val (.int p3), .val (.int s0), .val (.int s1), .val (.int s2), .val (.int (1 : Int32)), .val (.int k0), .val (.int k1), .val (.int k2), .val (.int k3), .val (.int cl), .unset, .unset, .unset, .unset, .unset] [(.int ((p3.toUInt32 >>> ((4 : Int32) &&& 31).toUInt32).toInt32))]))
        refine o_ic X0 H at_105 (v := 1) rfl ?_
        refine o_iand X0 H at_106 ?_
        by_cases hc218 : (((p3.toUInt32 >>> ((4 : Int32) &&& 31).toUInt32).toInt32) &&& (1 : Int32)) = (0 : Int32)
        · refine o_ifY X0 H at_107 ((if0 _ _).trans (teq hc218).1) (pc' := 120) (by decide) (by decide) ?_
          refine o_ildN X0 H at_120 rfl ?_
          refine o_ic X0 H at_121 (v := 5) rfl ?_
          refine own_on (fun tq => XS.iushr X0.here hx rfl (hb hby at_122) rfl) ?_
          show own_Fin p e below _ (s₁.setTop (mkF m 123 #[.val (.int p1), .val (.int p2), .val (.int p3), .val (.int s0), .val (.int s1), .val (.int s2), .val (.int (1 : Int32)), .val (.int k0), .val (.int k1), .val (.int k2), .val (.int k3), .val (.int cl), .unset, .unset, .unset, .unset, .unset] [(.int ((p3.toUInt32 >>> ((5 : Int32) &&& 31).toUInt32).toInt32))]))
          refine o_ic X0 H at_123 (v := 1) rfl ?_
          refine o_iand X0 H at_124 ?_
          by_cases hc219 : (((p3.toUInt32 >>> ((5 : Int32) &&& 31).toUInt32).toInt32) &&& (1 : Int32)) = (0 : Int32)
          · refine o_ifY X0 H at_125 ((if0 _ _).trans (teq hc219).1) (pc' := 138) (by decide) (by decide) ?_
            refine o_ildN X0 H at_138 rfl ?_
            refine o_si X0 H at_139 (v := 128) rfl ?_
            refine o_iand X0 H at_142 ?_
            by_cases hc220 : (p3 &&& (128 : Int32)) = (0 : Int32)
            · refine o_ifY X0 H at_143 ((if0 _ _).trans (teq hc220).1) (pc' := 188) (by decide) (by decide) ?_
              exact HM _ _ _ _ ⟨rk0, rk1, rk2, rk3⟩
            · refine o_ifN X0 H at_143 ((if0 _ _).trans (feq hc220).1) ?_
              refine o_ild X0 H at_146 rfl ?_
              refine o_ifY X0 H at_148 ((if0 _ _).trans (feq (by decide : ¬ ((1 : Int32) = (0 : Int32)))).2) (pc' := 158) (by decide) (by decide) ?_
              refine o_ild X0 H at_158 rfl ?_
              refine o_ic X0 H at_160 (v := 1) rfl ?_
              refine o_icN X0 H at_161 (teq (by decide : (1 : Int32) = (1 : Int32))).2 ?_
              refine o_bi X0 H at_164 (v := 40) rfl ?_
              refine o_ist X0 H at_166 (L' := #[.val (.int p1), .val (.int p2), .val (.int p3), .val (.int s0), .val (.int s1), .val (.int s2), .val (.int (1 : Int32)), .val (.int k0), .val (.int (40 : Int32)), .val (.int k2), .val (.int k3), .val (.int cl), .unset, .unset, .unset, .unset, .unset]) rfl ?_
              refine o_go X0 H at_168 (pc' := 188) (by decide) (by decide) ?_
              exact HM _ _ _ _ ⟨rk0, (by decide), rk2, rk3⟩
          · refine o_ifN X0 H at_125 ((if0 _ _).trans (feq hc219).1) ?_
            refine o_ild X0 H at_128 rfl ?_
            refine o_ic X0 H at_130 (v := 2) rfl ?_
            refine o_icY X0 H at_131 (flt (by decide : ¬ ((2 : Int32) < (1 : Int32)))).2.2.2 (pc' := 138) (by decide) (by decide) ?_
            refine o_ildN X0 H at_138 rfl ?_
            refine o_si X0 H at_139 (v := 128) rfl ?_
            refine o_iand X0 H at_142 ?_
            by_cases hc221 : (p3 &&& (128 : Int32)) = (0 : Int32)
            · refine o_ifY X0 H at_143 ((if0 _ _).trans (teq hc221).1) (pc' := 188) (by decide) (by decide) ?_
              exact HM _ _ _ _ ⟨rk0, rk1, rk2, rk3⟩
            · refine o_ifN X0 H at_143 ((if0 _ _).trans (feq hc221).1) ?_
              refine o_ild X0 H at_146 rfl ?_
              refine o_ifY X0 H at_148 ((if0 _ _).trans (feq (by decide : ¬ ((1 : Int32) = (0 : Int32)))).2) (pc' := 158) (by decide) (by decide) ?_
              refine o_ild X0 H at_158 rfl ?_
              refine o_ic X0 H at_160 (v := 1) rfl ?_
              refine o_icN X0 H at_161 (teq (by decide : (1 : Int32) = (1 : Int32))).2 ?_
              refine o_bi X0 H at_164 (v := 40) rfl ?_
              refine o_ist X0 H at_166 (L' := #[.val (.int p1), .val (.int p2), .val (.int p3), .val (.int s0), .val (.int s1), .val (.int s2), .val (.int (1 : Int32)), .val (.int k0), .val (.int (40 : Int32)), .val (.int k2), .val (.int k3), .val (.int cl), .unset, .unset, .unset, .unset, .unset]) rfl ?_
              refine o_go X0 H at_168 (pc' := 188) (by decide) (by decide) ?_
              exact HM _ _ _ _ ⟨rk0, (by decide), rk2, rk3⟩
        · refine o_ifN X0 H at_107 ((if0 _ _).trans (feq hc218).1) ?_
          refine o_ild X0 H at_110 rfl ?_
          refine o_ic X0 H at_112 (v := 1) rfl ?_
          refine o_icY X0 H at_113 (flt (by decide : ¬ ((1 : Int32) < (1 : Int32)))).2.2.2 (pc' := 120) (by decide) (by decide) ?_
          refine o_ildN X0 H at_120 rfl ?_
          refine o_ic X0 H at_121 (v := 5) rfl ?_
          refine own_on (fun tq => XS.iushr X0.here hx rfl (hb hby at_122) rfl) ?_
          show own_Fin p e below _ (s₁.setTop (mkF m 123 #[.val (.int p1), .val (.int p2), .val (.int p3), .val (.int s0), .val (.int s1), .val (.int s2), .val (.int (1 : Int32)), .val (.int k0), .val (.int k1), .val (.int k2), .val (.int k3), .val (.int cl), .unset, .unset, .unset, .unset, .unset] [(.int ((p3.toUInt32 >>> ((5 : Int32) &&& 31).toUInt32).toInt32))]))
          refine o_ic X0 H at_123 (v := 1) rfl ?_
          refine o_iand X0 H at_124 ?_
          by_cases hc222 : (((p3.toUInt32 >>> ((5 : Int32) &&& 31).toUInt32).toInt32) &&& (1 : Int32)) = (0 : Int32)
          · refine o_ifY X0 H at_125 ((if0 _ _).trans (teq hc222).1) (pc' := 138) (by decide) (by decide) ?_
            refine o_ildN X0 H at_138 rfl ?_
            refine o_si X0 H at_139 (v := 128) rfl ?_
            refine o_iand X0 H at_142 ?_
            by_cases hc223 : (p3 &&& (128 : Int32)) = (0 : Int32)
            · refine o_ifY X0 H at_143 ((if0 _ _).trans (teq hc223).1) (pc' := 188) (by decide) (by decide) ?_
              exact HM _ _ _ _ ⟨rk0, rk1, rk2, rk3⟩
            · refine o_ifN X0 H at_143 ((if0 _ _).trans (feq hc223).1) ?_
              refine o_ild X0 H at_146 rfl ?_
              refine o_ifY X0 H at_148 ((if0 _ _).trans (feq (by decide : ¬ ((1 : Int32) = (0 : Int32)))).2) (pc' := 158) (by decide) (by decide) ?_
              refine o_ild X0 H at_158 rfl ?_
              refine o_ic X0 H at_160 (v := 1) rfl ?_
              refine o_icN X0 H at_161 (teq (by decide : (1 : Int32) = (1 : Int32))).2 ?_
              refine o_bi X0 H at_164 (v := 40) rfl ?_
              refine o_ist X0 H at_166 (L' := #[.val (.int p1), .val (.int p2), .val (.int p3), .val (.int s0), .val (.int s1), .val (.int s2), .val (.int (1 : Int32)), .val (.int k0), .val (.int (40 : Int32)), .val (.int k2), .val (.int k3), .val (.int cl), .unset, .unset, .unset, .unset, .unset]) rfl ?_
              refine o_go X0 H at_168 (pc' := 188) (by decide) (by decide) ?_
              exact HM _ _ _ _ ⟨rk0, (by decide), rk2, rk3⟩
          · refine o_ifN X0 H at_125 ((if0 _ _).trans (feq hc222).1) ?_
            refine o_ild X0 H at_128 rfl ?_
            refine o_ic X0 H at_130 (v := 2) rfl ?_
            refine o_icY X0 H at_131 (flt (by decide : ¬ ((2 : Int32) < (1 : Int32)))).2.2.2 (pc' := 138) (by decide) (by decide) ?_
            refine o_ildN X0 H at_138 rfl ?_
            refine o_si X0 H at_139 (v := 128) rfl ?_
            refine o_iand X0 H at_142 ?_
            by_cases hc224 : (p3 &&& (128 : Int32)) = (0 : Int32)
            · refine o_ifY X0 H at_143 ((if0 _ _).trans (teq hc224).1) (pc' := 188) (by decide) (by decide) ?_
              exact HM _ _ _ _ ⟨rk0, rk1, rk2, rk3⟩
            · refine o_ifN X0 H at_143 ((if0 _ _).trans (feq hc224).1) ?_
              refine o_ild X0 H at_146 rfl ?_
              refine o_ifY X0 H at_148 ((if0 _ _).trans (feq (by decide : ¬ ((1 : Int32) = (0 : Int32)))).2) (pc' := 158) (by decide) (by decide) ?_
              refine o_ild X0 H at_158 rfl ?_
              refine o_ic X0 H at_160 (v := 1) rfl ?_
              refine o_icN X0 H at_161 (teq (by decide : (1 : Int32) = (1 : Int32))).2 ?_
              refine o_bi X0 H at_164 (v := 40) rfl ?_
              refine o_ist X0 H at_166 (L' := #[.val (.int p1), .val (.int p2), .val (.int p3), .val (.int s0), .val (.int s1), .val (.int s2), .val (.int (1 : Int32)), .val (.int k0), .val (.int (40 : Int32)), .val (.int k2), .val (.int k3), .val (.int cl), .unset, .unset, .unset, .unset, .unset]) rfl ?_
              refine o_go X0 H at_168 (pc' := 188) (by decide) (by decide) ?_
              exact HM _ _ _ _ ⟨rk0, (by decide), rk2, rk3⟩
      · refine o_ifN X0 H at_91 ((if0 _ _).trans (feq hc217).1) ?_
        refine o_ild X0 H at_94 rfl ?_
        refine o_ifN X0 H at_96 ((if0 _ _).trans (tlt (by decide : (0 : Int32) < (1 : Int32))).2.2.2) ?_
        refine o_ildN X0 H at_99 rfl ?_
        refine o_ist X0 H at_100 (L' := #[.val (.int p1), .val (.int p2), .val (.int p3), .val (.int s0), .val (.int s1), .val (.int s2), .val (.int (1 : Int32)), .val (.int s0), .val (.int k1), .val (.int k2), .val (.int k3), .val (.int cl), .unset, .unset, .unset, .unset, .unset]) rfl ?_
        refine o_ildN X0 H at_102 rfl ?_
        refine o_ic X0 H at_103 (v := 4) rfl ?_
        refine own_on (fun tq => XS.iushr X0.here hx rfl (hb hby at_104) rfl) ?_
        show own_Fin p e below _ (s₁.setTop (mkF m 105 #[.val (.int p1), .val (.int p2), .val (.int p3), .val (.int s0), .val (.int s1), .val (.int s2), .val (.int (1 : Int32)), .val (.int s0), .val (.int k1), .val (.int k2), .val (.int k3), .val (.int cl), .unset, .unset, .unset, .unset, .unset] [(.int ((p3.toUInt32 >>> ((4 : Int32) &&& 31).toUInt32).toInt32))]))
        refine o_ic X0 H at_105 (v := 1) rfl ?_
        refine o_iand X0 H at_106 ?_
        by_cases hc225 : (((p3.toUInt32 >>> ((4 : Int32) &&& 31).toUInt32).toInt32) &&& (1 : Int32)) = (0 : Int32)
        · refine o_ifY X0 H at_107 ((if0 _ _).trans (teq hc225).1) (pc' := 120) (by decide) (by decide) ?_
          refine o_ildN X0 H at_120 rfl ?_
          refine o_ic X0 H at_121 (v := 5) rfl ?_
          refine own_on (fun tq => XS.iushr X0.here hx rfl (hb hby at_122) rfl) ?_
          show own_Fin p e below _ (s₁.setTop (mkF m 123 #[.val (.int p1), .val (.int p2), .val (.int p3), .val (.int s0), .val (.int s1), .val (.int s2), .val (.int (1 : Int32)), .val (.int s0), .val (.int k1), .val (.int k2), .val (.int k3), .val (.int cl), .unset, .unset, .unset, .unset, .unset] [(.int ((p3.toUInt32 >>> ((5 : Int32) &&& 31).toUInt32).toInt32))]))
          refine o_ic X0 H at_123 (v := 1) rfl ?_
          refine o_iand X0 H at_124 ?_
          by_cases hc226 : (((p3.toUInt32 >>> ((5 : Int32) &&& 31).toUInt32).toInt32) &&& (1 : Int32)) = (0 : Int32)
          · refine o_ifY X0 H at_125 ((if0 _ _).trans (teq hc226).1) (pc' := 138) (by decide) (by decide) ?_
            refine o_ildN X0 H at_138 rfl ?_
            refine o_si X0 H at_139 (v := 128) rfl ?_
            refine o_iand X0 H at_142 ?_
            by_cases hc227 : (p3 &&& (128 : Int32)) = (0 : Int32)
            · refine o_ifY X0 H at_143 ((if0 _ _).trans (teq hc227).1) (pc' := 188) (by decide) (by decide) ?_
              exact HM _ _ _ _ ⟨rs0, rk1, rk2, rk3⟩
            · refine o_ifN X0 H at_143 ((if0 _ _).trans (feq hc227).1) ?_
              refine o_ild X0 H at_146 rfl ?_
              refine o_ifY X0 H at_148 ((if0 _ _).trans (feq (by decide : ¬ ((1 : Int32) = (0 : Int32)))).2) (pc' := 158) (by decide) (by decide) ?_
              refine o_ild X0 H at_158 rfl ?_
              refine o_ic X0 H at_160 (v := 1) rfl ?_
              refine o_icN X0 H at_161 (teq (by decide : (1 : Int32) = (1 : Int32))).2 ?_
              refine o_bi X0 H at_164 (v := 40) rfl ?_
              refine o_ist X0 H at_166 (L' := #[.val (.int p1), .val (.int p2), .val (.int p3), .val (.int s0), .val (.int s1), .val (.int s2), .val (.int (1 : Int32)), .val (.int s0), .val (.int (40 : Int32)), .val (.int k2), .val (.int k3), .val (.int cl), .unset, .unset, .unset, .unset, .unset]) rfl ?_
              refine o_go X0 H at_168 (pc' := 188) (by decide) (by decide) ?_
              exact HM _ _ _ _ ⟨rs0, (by decide), rk2, rk3⟩
          · refine o_ifN X0 H at_125 ((if0 _ _).trans (feq hc226).1) ?_
            refine o_ild X0 H at_128 rfl ?_
            refine o_ic X0 H at_130 (v := 2) rfl ?_
            refine o_icY X0 H at_131 (flt (by decide : ¬ ((2 : Int32) < (1 : Int32)))).2.2.2 (pc' := 138) (by decide) (by decide) ?_
            refine o_ildN X0 H at_138 rfl ?_
            refine o_si X0 H at_139 (v := 128) rfl ?_
            refine o_iand X0 H at_142 ?_
            by_cases hc228 : (p3 &&& (128 : Int32)) = (0 : Int32)
            · refine o_ifY X0 H at_143 ((if0 _ _).trans (teq hc228).1) (pc' := 188) (by decide) (by decide) ?_
              exact HM _ _ _ _ ⟨rs0, rk1, rk2, rk3⟩
            · refine o_ifN X0 H at_143 ((if0 _ _).trans (feq hc228).1) ?_
              refine o_ild X0 H at_146 rfl ?_
              refine o_ifY X0 H at_148 ((if0 _ _).trans (feq (by decide : ¬ ((1 : Int32) = (0 : Int32)))).2) (pc' := 158) (by decide) (by decide) ?_
              refine o_ild X0 H at_158 rfl ?_
              refine o_ic X0 H at_160 (v := 1) rfl ?_
              refine o_icN X0 H at_161 (teq (by decide : (1 : Int32) = (1 : Int32))).2 ?_
              refine o_bi X0 H at_164 (v := 40) rfl ?_
              refine o_ist X0 H at_166 (L' := #[.val (.int p1), .val (.int p2), .val (.int p3), .val (.int s0), .val (.int s1), .val (.int s2), .val (.int (1 : Int32)), .val (.int s0), .val (.int (40 : Int32)), .val (.int k2), .val (.int k3), .val (.int cl), .unset, .unset, .unset, .unset, .unset]) rfl ?_
              refine o_go X0 H at_168 (pc' := 188) (by decide) (by decide) ?_
              exact HM _ _ _ _ ⟨rs0, (by decide), rk2, rk3⟩
        · refine o_ifN X0 H at_107 ((if0 _ _).trans (feq hc225).1) ?_
          refine o_ild X0 H at_110 rfl ?_
          refine o_ic X0 H at_112 (v := 1) rfl ?_
          refine o_icY X0 H at_113 (flt (by decide : ¬ ((1 : Int32) < (1 : Int32)))).2.2.2 (pc' := 120) (by decide) (by decide) ?_
          refine o_ildN X0 H at_120 rfl ?_
          refine o_ic X0 H at_121 (v := 5) rfl ?_
          refine own_on (fun tq => XS.iushr X0.here hx rfl (hb hby at_122) rfl) ?_
          show own_Fin p e below _ (s₁.setTop (mkF m 123 #[.val (.int p1), .val (.int p2), .val (.int p3), .val (.int s0), .val (.int s1), .val (.int s2), .val (.int (1 : Int32)), .val (.int s0), .val (.int k1), .val (.int k2), .val (.int k3), .val (.int cl), .unset, .unset, .unset, .unset, .unset] [(.int ((p3.toUInt32 >>> ((5 : Int32) &&& 31).toUInt32).toInt32))]))
          refine o_ic X0 H at_123 (v := 1) rfl ?_
          refine o_iand X0 H at_124 ?_
          by_cases hc229 : (((p3.toUInt32 >>> ((5 : Int32) &&& 31).toUInt32).toInt32) &&& (1 : Int32)) = (0 : Int32)
          · refine o_ifY X0 H at_125 ((if0 _ _).trans (teq hc229).1) (pc' := 138) (by decide) (by decide) ?_
            refine o_ildN X0 H at_138 rfl ?_
            refine o_si X0 H at_139 (v := 128) rfl ?_
            refine o_iand X0 H at_142 ?_
            by_cases hc230 : (p3 &&& (128 : Int32)) = (0 : Int32)
            · refine o_ifY X0 H at_143 ((if0 _ _).trans (teq hc230).1) (pc' := 188) (by decide) (by decide) ?_
              exact HM _ _ _ _ ⟨rs0, rk1, rk2, rk3⟩
            · refine o_ifN X0 H at_143 ((if0 _ _).trans (feq hc230).1) ?_
              refine o_ild X0 H at_146 rfl ?_
              refine o_ifY X0 H at_148 ((if0 _ _).trans (feq (by decide : ¬ ((1 : Int32) = (0 : Int32)))).2) (pc' := 158) (by decide) (by decide) ?_
              refine o_ild X0 H at_158 rfl ?_
              refine o_ic X0 H at_160 (v := 1) rfl ?_
              refine o_icN X0 H at_161 (teq (by decide : (1 : Int32) = (1 : Int32))).2 ?_
              refine o_bi X0 H at_164 (v := 40) rfl ?_
              refine o_ist X0 H at_166 (L' := #[.val (.int p1), .val (.int p2), .val (.int p3), .val (.int s0), .val (.int s1), .val (.int s2), .val (.int (1 : Int32)), .val (.int s0), .val (.int (40 : Int32)), .val (.int k2), .val (.int k3), .val (.int cl), .unset, .unset, .unset, .unset, .unset]) rfl ?_
              refine o_go X0 H at_168 (pc' := 188) (by decide) (by decide) ?_
              exact HM _ _ _ _ ⟨rs0, (by decide), rk2, rk3⟩
          · refine o_ifN X0 H at_125 ((if0 _ _).trans (feq hc229).1) ?_
            refine o_ild X0 H at_128 rfl ?_
            refine o_ic X0 H at_130 (v := 2) rfl ?_
            refine o_icY X0 H at_131 (flt (by decide : ¬ ((2 : Int32) < (1 : Int32)))).2.2.2 (pc' := 138) (by decide) (by decide) ?_
            refine o_ildN X0 H at_138 rfl ?_
            refine o_si X0 H at_139 (v := 128) rfl ?_
            refine o_iand X0 H at_142 ?_
            by_cases hc231 : (p3 &&& (128 : Int32)) = (0 : Int32)
            · refine o_ifY X0 H at_143 ((if0 _ _).trans (teq hc231).1) (pc' := 188) (by decide) (by decide) ?_
              exact HM _ _ _ _ ⟨rs0, rk1, rk2, rk3⟩
            · refine o_ifN X0 H at_143 ((if0 _ _).trans (feq hc231).1) ?_
              refine o_ild X0 H at_146 rfl ?_
              refine o_ifY X0 H at_148 ((if0 _ _).trans (feq (by decide : ¬ ((1 : Int32) = (0 : Int32)))).2) (pc' := 158) (by decide) (by decide) ?_
              refine o_ild X0 H at_158 rfl ?_
              refine o_ic X0 H at_160 (v := 1) rfl ?_
              refine o_icN X0 H at_161 (teq (by decide : (1 : Int32) = (1 : Int32))).2 ?_
              refine o_bi X0 H at_164 (v := 40) rfl ?_
              refine o_ist X0 H at_166 (L' := #[.val (.int p1), .val (.int p2), .val (.int p3), .val (.int s0), .val (.int s1), .val (.int s2), .val (.int (1 : Int32)), .val (.int s0), .val (.int (40 : Int32)), .val (.int k2), .val (.int k3), .val (.int cl), .unset, .unset, .unset, .unset, .unset]) rfl ?_
              refine o_go X0 H at_168 (pc' := 188) (by decide) (by decide) ?_
              exact HM _ _ _ _ ⟨rs0, (by decide), rk2, rk3⟩
  · rw [hn]
    show own_Fin p e below _ (s₁.setTop (mkF m 86 #[.val (.int p1), .val (.int p2), .val (.int p3), .val (.int s0), .val (.int s1), .val (.int s2), .val (.int (2 : Int32)), .val (.int k0), .val (.int k1), .val (.int k2), .val (.int k3), .val (.int cl), .unset, .unset, .unset, .unset, .unset] []))
    refine own_mergeA (B := fun w0 w1 w2 w3 => (s₁.setTop (mkF m 188 #[.val (.int p1), .val (.int p2), .val (.int p3), .val (.int s0), .val (.int s1), .val (.int s2), .val (.int (2 : Int32)), .val (.int w0), .val (.int w1), .val (.int w2), .val (.int w3), .val (.int cl), .unset, .unset, .unset, .unset, .unset] []))) (R := fun w0 w1 w2 w3 => ((¬ w0 < 0 ∧ ¬ (255 : Int32) < w0) ∧ (¬ w1 < 0 ∧ ¬ (255 : Int32) < w1) ∧ (¬ w2 < 0 ∧ ¬ (255 : Int32) < w2) ∧ (¬ w3 < 0 ∧ ¬ (255 : Int32) < w3))) ?_ (fun HM => ?_)
    · intro w0 w1 w2 w3 hR
      obtain ⟨rw0, rw1, rw2, rw3⟩ := hR
      show own_Fin p e below _ (s₁.setTop (mkF m 188 #[.val (.int p1), .val (.int p2), .val (.int p3), .val (.int s0), .val (.int s1), .val (.int s2), .val (.int (2 : Int32)), .val (.int w0), .val (.int w1), .val (.int w2), .val (.int w3), .val (.int cl), .unset, .unset, .unset, .unset, .unset] []))
      refine o_ildN X0 H at_188 rfl ?_
      refine o_ild X0 H at_189 rfl ?_
      refine o_ild X0 H at_191 rfl ?_
      refine o_ild X0 H at_193 rfl ?_
      refine o_ild X0 H at_195 rfl ?_
      refine o_tc (argsL := [(.int s0), (.int s1), (.int s2), (.int s2), (.int (2 : Int32))]) (rest := []) X0 H hml hZ hown (ow hw 0 rfl) (ow hw 1 rfl) (ow hw 2 rfl) (ow hw 3 rfl) (backOf (W := 0) (rmMk2 l Z a0 hw [] s0 s1 s2 s2 z h0 n0 (by exact Z0) rs0 rs1 rs2 rs2 hz O SC) hZ (ow hw 3 rfl) (ow hw 2 rfl) (by decide) (by decide)) (by decide) e0 pd_24 at_197 rfl rfl rfl rfl rfl (by decide) (by decide) fun _ T232 Lc232 X232 hQ232 => ?_
      obtain ⟨x232, t232, kt232, rfl, N232q, K232, Eq232, Cq232, Vq232, Aq232⟩ := hQ232
      have N232 := Fr.app N0 N232q
      show own_Fin p e below _ (T232.setTop (mkF m 200 #[.val (.int p1), .val (.int p2), .val (.int p3), .val (.int s0), .val (.int s1), .val (.int s2), .val (.int (2 : Int32)), .val (.int w0), .val (.int w1), .val (.int w2), .val (.int w3), .val (.int cl), .unset, .unset, .unset, .unset, .unset] [(.ref x232)]))
      refine o_ast X232 H at_200 (L' := #[.val (.int p1), .val (.int p2), .val (.int p3), .val (.int s0), .val (.int s1), .val (.int s2), .val (.int (2 : Int32)), .val (.int w0), .val (.int w1), .val (.int w2), .val (.int w3), .val (.int cl), .val (.ref x232), .unset, .unset, .unset, .unset]) rfl rfl ?_
      rcases (hcl ▸ own_rem5 _ : cl = 0 ∨ cl = 1 ∨ cl = 2 ∨ cl = 3 ∨ cl = 4) with hm | hm | hm | hm | hm
      · rw [hm]
        show own_Fin p e below _ (T232.setTop (mkF m 202 #[.val (.int p1), .val (.int p2), .val (.int p3), .val (.int s0), .val (.int s1), .val (.int s2), .val (.int (2 : Int32)), .val (.int w0), .val (.int w1), .val (.int w2), .val (.int w3), .val (.int (0 : Int32)), .val (.ref x232), .unset, .unset, .unset, .unset] []))
        refine o_ild X232 H at_202 rfl ?_
        refine o_ild X232 H at_204 rfl ?_
        refine o_ild X232 H at_206 rfl ?_
        refine o_ild X232 H at_208 rfl ?_
        refine o_ild X232 H at_210 rfl ?_
        obtain ⟨_, _, ⟨T233, L233, k233, n233⟩, -, X233', S233', gr233, ⟨Lc233, hQ233, l233, y233, z233, A233⟩, st233⟩ := callSS X232 hx (y := (⟨"com/example/covenantry/covenantry/input/LedgerIsUnderPinLaw", "mk", "(CCCCI)Ljava/lang/String;"⟩ : MethodName)) hown (mvT hZ (ow hw 0 rfl)) (mvT hZ (ow hw 1 rfl)) (mvT hZ (ow hw 2 rfl)) (mvT hZ (ow hw 3 rfl)) (by decide) (backOfSH (s := s) (W := 0) (rmMk0 l Z a0 hw [] w0 w1 w2 w3 z T232.heap n0 (by exact (Nat.le_trans Z0 K232.1)) hEL rw0 rw1 rw2 rw3 hz (O.keep K232 all0) SC) hZ (ow hw 3 rfl) (ow hw 2 rfl) (by decide) (by decide) hEL (CHv.keep K232 sf0 CH0)) (g := (mkF m 212 #[.val (.int p1), .val (.int p2), .val (.int p3), .val (.int s0), .val (.int s1), .val (.int s2), .val (.int (2 : Int32)), .val (.int w0), .val (.int w1), .val (.int w2), .val (.int w3), .val (.int (0 : Int32)), .val (.ref x232), .unset, .unset, .unset, .unset] [(.int (0 : Int32)), (.int w3), (.int w2), (.int w1), (.int w0)])) rfl hml.symm (argsL := [(.int w0), (.int w1), (.int w2), (.int w3), (.int (0 : Int32))]) (rest := []) (lenOf pd_24 rfl) rfl (o_mr rfl) (hb hby at_212) (fun _ _ => ⟨rfl, rfl, (by decide : 3 + 6 ≤ _), (by decide : 8 + 12 ≤ _)⟩)
        dsimp only [Pt.U, Pt.locs, Pt.cells, Pt.slots] at X233' S233' gr233 l233 y233 z233 st233 hQ233 A233
        replace l233 := l233.symm; replace y233 := y233.symm; replace z233 := z233.symm; subst l233 y233 z233
        obtain ⟨X233, hS233, hZ233, hown233⟩ := rebS hS0 (by first | exact (Nat.le_trans (Nat.zero_le _) K232.1) | (rw [(rfl : 0 = 0)]; exact (Nat.le_trans (Nat.zero_le _) K232.1))) X233' S233' gr233 hZ hown
        obtain ⟨x233, t233, kt233, rfl, N233q, K233, Eq233, Cq233, Vq233, Aq233⟩ := hQ233
        have N233 := Fr.app N232 N233q
        refine own_via st233 ?_
        show own_Fin p e below _ (T233.setTop (mkF m 215 #[.val (.int p1), .val (.int p2), .val (.int p3), .val (.int s0), .val (.int s1), .val (.int s2), .val (.int (2 : Int32)), .val (.int w0), .val (.int w1), .val (.int w2), .val (.int w3), .val (.int (0 : Int32)), .val (.ref x232), .unset, .unset, .unset, .unset] [(.ref x233)]))
        refine o_ast X233 H at_215 (L' := #[.val (.int p1), .val (.int p2), .val (.int p3), .val (.int s0), .val (.int s1), .val (.int s2), .val (.int (2 : Int32)), .val (.int w0), .val (.int w1), .val (.int w2), .val (.int w3), .val (.int (0 : Int32)), .val (.ref x232), .val (.ref x233), .unset, .unset, .unset]) rfl rfl ?_
        refine o_ild X233 H at_217 rfl ?_
        refine o_ic X233 H at_219 (v := 1) rfl ?_
        refine o_icN X233 H at_220 (flt (by decide : ¬ ((2 : Int32) < (1 : Int32)))).1 ?_
        refine o_ild X233 H at_223 rfl ?_
        refine o_ildN X233 H at_225 rfl ?_
        by_cases hc234 : w0 = s0
        · refine o_icN X233 H at_226 (teq hc234).2 ?_
          refine o_ild X233 H at_229 rfl ?_
          refine o_ic X233 H at_231 (v := 2) rfl ?_
          refine o_icN X233 H at_232 (flt (by decide : ¬ ((2 : Int32) < (2 : Int32)))).1 ?_
          refine o_ild X233 H at_235 rfl ?_
          refine o_ild X233 H at_237 rfl ?_
          by_cases hc235 : w1 = s1
          · refine o_icN X233 H at_239 (teq hc235).2 ?_
            refine o_ild X233 H at_242 rfl ?_
            refine o_ic X233 H at_244 (v := 3) rfl ?_
            refine o_icY X233 H at_245 (tlt (by decide : (2 : Int32) < (3 : Int32))).1 (pc' := 255) (by decide) (by decide) ?_
            refine o_ic X233 H at_255 (v := 1) rfl ?_
            refine o_go X233 H at_256 (pc' := 260) (by decide) (by decide) ?_
            refine o_ist X233 H at_260 (L' := #[.val (.int p1), .val (.int p2), .val (.int p3), .val (.int s0), .val (.int s1), .val (.int s2), .val (.int (2 : Int32)), .val (.int w0), .val (.int w1), .val (.int w2), .val (.int w3), .val (.int (0 : Int32)), .val (.ref x232), .val (.ref x233), .val (.int (1 : Int32)), .unset, .unset]) rfl ?_
            refine o_ild X233 H at_262 rfl ?_
            refine o_ifY X233 H at_264 ((if0 _ _).trans (feq (by decide : ¬ ((2 : Int32) = (0 : Int32)))).2) (pc' := 272) (by decide) (by decide) ?_
            refine o_ild X233 H at_272 rfl ?_
            refine o_ic X233 H at_274 (v := 1) rfl ?_
            refine o_icY X233 H at_275 (feq (by decide : ¬ ((2 : Int32) = (1 : Int32)))).2 (pc' := 283) (by decide) (by decide) ?_
            refine o_ild X233 H at_283 rfl ?_
            refine o_ic X233 H at_285 (v := 2) rfl ?_
            refine o_icN X233 H at_286 (teq (by decide : (2 : Int32) = (2 : Int32))).2 ?_
            refine o_ild X233 H at_289 rfl ?_
            refine o_go X233 H at_291 (pc' := 296) (by decide) (by decide) ?_
            refine o_ist X233 H at_296 (L' := #[.val (.int p1), .val (.int p2), .val (.int p3), .val (.int s0), .val (.int s1), .val (.int s2), .val (.int (2 : Int32)), .val (.int w0), .val (.int w1), .val (.int w2), .val (.int w3), .val (.int (0 : Int32)), .val (.ref x232), .val (.ref x233), .val (.int (1 : Int32)), .val (.int w2), .unset]) rfl ?_
            refine o_ild X233 H at_298 rfl ?_
            refine o_ild X233 H at_300 rfl ?_
            refine o_icY X233 H at_302 (tlt (by decide : (0 : Int32) < (2 : Int32))).1 (pc' := 328) (by decide) (by decide) ?_
            refine o_ic X233 H at_328 (v := 0) rfl ?_
            refine o_ist X233 H at_329 (L' := #[.val (.int p1), .val (.int p2), .val (.int p3), .val (.int s0), .val (.int s1), .val (.int s2), .val (.int (2 : Int32)), .val (.int w0), .val (.int w1), .val (.int w2), .val (.int w3), .val (.int (0 : Int32)), .val (.ref x232), .val (.ref x233), .val (.int (1 : Int32)), .val (.int w2), .val (.int (0 : Int32))]) rfl ?_
            exact PT _ _ _ _ _ _ _ _ _ _ _ _ _ _ x233 t233 x232 t232 kt233 kt232 0 2 ([] : List Int32) [s0, s1] _ rfl rfl (by decide) (by decide) (fun _ q => nomatch q) (List.forall_mem_cons.mpr ⟨rs0, List.forall_mem_cons.mpr ⟨rs1, fun _ q => nomatch q⟩⟩) (Or.inr ⟨rfl, (own_U_0_2 s0 s1)⟩) T233 _ _ _ _ (X233.more (by decide) (by decide)) rfl N233 hS233 hZ233 hown233 A233.1 (CHr.trans (CHr.trans (CHr.refl CH0) (CHr.keep K232 sf0 CH0)) A233) (Nat.le_refl (Array.size T233.heap)) (Nat.le_trans (Nat.le_trans Z0 K232.1) K233.1) ((O.keep K232 all0).keep K233 all0) Eq233 Cq233 Vq233 Aq233 (Eq232.keep K233) (Cq232.keep K233 nin0) (Vq232.keep K233 nin0) (Aq232.keep K233 nin0)
          · refine o_icY X233 H at_239 (feq hc235).2 (pc' := 259) (by decide) (by decide) ?_
            refine o_ic X233 H at_259 (v := 0) rfl ?_
            refine o_ist X233 H at_260 (L' := #[.val (.int p1), .val (.int p2), .val (.int p3), .val (.int s0), .val (.int s1), .val (.int s2), .val (.int (2 : Int32)), .val (.int w0), .val (.int w1), .val (.int w2), .val (.int w3), .val (.int (0 : Int32)), .val (.ref x232), .val (.ref x233), .val (.int (0 : Int32)), .unset, .unset]) rfl ?_
            refine o_ild X233 H at_262 rfl ?_
            refine o_ifY X233 H at_264 ((if0 _ _).trans (feq (by decide : ¬ ((2 : Int32) = (0 : Int32)))).2) (pc' := 272) (by decide) (by decide) ?_
            refine o_ild X233 H at_272 rfl ?_
            refine o_ic X233 H at_274 (v := 1) rfl ?_
            refine o_icY X233 H at_275 (feq (by decide : ¬ ((2 : Int32) = (1 : Int32)))).2 (pc' := 283) (by decide) (by decide) ?_
            refine o_ild X233 H at_283 rfl ?_
            refine o_ic X233 H at_285 (v := 2) rfl ?_
            refine o_icN X233 H at_286 (teq (by decide : (2 : Int32) = (2 : Int32))).2 ?_
            refine o_ild X233 H at_289 rfl ?_
            refine o_go X233 H at_291 (pc' := 296) (by decide) (by decide) ?_
            refine o_ist X233 H at_296 (L' := #[.val (.int p1), .val (.int p2), .val (.int p3), .val (.int s0), .val (.int s1), .val (.int s2), .val (.int (2 : Int32)), .val (.int w0), .val (.int w1), .val (.int w2), .val (.int w3), .val (.int (0 : Int32)), .val (.ref x232), .val (.ref x233), .val (.int (0 : Int32)), .val (.int w2), .unset]) rfl ?_
            refine o_ild X233 H at_298 rfl ?_
            refine o_ild X233 H at_300 rfl ?_
            refine o_icY X233 H at_302 (tlt (by decide : (0 : Int32) < (2 : Int32))).1 (pc' := 328) (by decide) (by decide) ?_
            refine o_ic X233 H at_328 (v := 0) rfl ?_
            refine o_ist X233 H at_329 (L' := #[.val (.int p1), .val (.int p2), .val (.int p3), .val (.int s0), .val (.int s1), .val (.int s2), .val (.int (2 : Int32)), .val (.int w0), .val (.int w1), .val (.int w2), .val (.int w3), .val (.int (0 : Int32)), .val (.ref x232), .val (.ref x233), .val (.int (0 : Int32)), .val (.int w2), .val (.int (0 : Int32))]) rfl ?_
            exact PT _ _ _ _ _ _ _ _ _ _ _ _ _ _ x233 t233 x232 t232 kt233 kt232 0 2 ([] : List Int32) [s0, s1] _ rfl rfl (by decide) (by decide) (fun _ q => nomatch q) (List.forall_mem_cons.mpr ⟨rs0, List.forall_mem_cons.mpr ⟨rs1, fun _ q => nomatch q⟩⟩) (Or.inr ⟨rfl, (own_U_0_2 s0 s1)⟩) T233 _ _ _ _ (X233.more (by decide) (by decide)) rfl N233 hS233 hZ233 hown233 A233.1 (CHr.trans (CHr.trans (CHr.refl CH0) (CHr.keep K232 sf0 CH0)) A233) (Nat.le_refl (Array.size T233.heap)) (Nat.le_trans (Nat.le_trans Z0 K232.1) K233.1) ((O.keep K232 all0).keep K233 all0) Eq233 Cq233 Vq233 Aq233 (Eq232.keep K233) (Cq232.keep K233 nin0) (Vq232.keep K233 nin0) (Aq232.keep K233 nin0)
        · refine o_icY X233 H at_226 (feq hc234).2 (pc' := 259) (by decide) (by decide) ?_
          refine o_ic X233 H at_259 (v := 0) rfl ?_
          refine o_ist X233 H at_260 (L' := #[.val (.int p1), .val (.int p2), .val (.int p3), .val (.int s0), .val (.int s1), .val (.int s2), .val (.int (2 : Int32)), .val (.int w0), .val (.int w1), .val (.int w2), .val (.int w3), .val (.int (0 : Int32)), .val (.ref x232), .val (.ref x233), .val (.int (0 : Int32)), .unset, .unset]) rfl ?_
          refine o_ild X233 H at_262 rfl ?_
          refine o_ifY X233 H at_264 ((if0 _ _).trans (feq (by decide : ¬ ((2 : Int32) = (0 : Int32)))).2) (pc' := 272) (by decide) (by decide) ?_
          refine o_ild X233 H at_272 rfl ?_
          refine o_ic X233 H at_274 (v := 1) rfl ?_
          refine o_icY X233 H at_275 (feq (by decide : ¬ ((2 : Int32) = (1 : Int32)))).2 (pc' := 283) (by decide) (by decide) ?_
          refine o_ild X233 H at_283 rfl ?_
          refine o_ic X233 H at_285 (v := 2) rfl ?_
          refine o_icN X233 H at_286 (teq (by decide : (2 : Int32) = (2 : Int32))).2 ?_
          refine o_ild X233 H at_289 rfl ?_
          refine o_go X233 H at_291 (pc' := 296) (by decide) (by decide) ?_
          refine o_ist X233 H at_296 (L' := #[.val (.int p1), .val (.int p2), .val (.int p3), .val (.int s0), .val (.int s1), .val (.int s2), .val (.int (2 : Int32)), .val (.int w0), .val (.int w1), .val (.int w2), .val (.int w3), .val (.int (0 : Int32)), .val (.ref x232), .val (.ref x233), .val (.int (0 : Int32)), .val (.int w2), .unset]) rfl ?_
          refine o_ild X233 H at_298 rfl ?_
          refine o_ild X233 H at_300 rfl ?_
          refine o_icY X233 H at_302 (tlt (by decide : (0 : Int32) < (2 : Int32))).1 (pc' := 328) (by decide) (by decide) ?_
          refine o_ic X233 H at_328 (v := 0) rfl ?_
          refine o_ist X233 H at_329 (L' := #[.val (.int p1), .val (.int p2), .val (.int p3), .val (.int s0), .val (.int s1), .val (.int s2), .val (.int (2 : Int32)), .val (.int w0), .val (.int w1), .val (.int w2), .val (.int w3), .val (.int (0 : Int32)), .val (.ref x232), .val (.ref x233), .val (.int (0 : Int32)), .val (.int w2), .val (.int (0 : Int32))]) rfl ?_
          exact PT _ _ _ _ _ _ _ _ _ _ _ _ _ _ x233 t233 x232 t232 kt233 kt232 0 2 ([] : List Int32) [s0, s1] _ rfl rfl (by decide) (by decide) (fun _ q => nomatch q) (List.forall_mem_cons.mpr ⟨rs0, List.forall_mem_cons.mpr ⟨rs1, fun _ q => nomatch q⟩⟩) (Or.inr ⟨rfl, (own_U_0_2 s0 s1)⟩) T233 _ _ _ _ (X233.more (by decide) (by decide)) rfl N233 hS233 hZ233 hown233 A233.1 (CHr.trans (CHr.trans (CHr.refl CH0) (CHr.keep K232 sf0 CH0)) A233) (Nat.le_refl (Array.size T233.heap)) (Nat.le_trans (Nat.le_trans Z0 K232.1) K233.1) ((O.keep K232 all0).keep K233 all0) Eq233 Cq233 Vq233 Aq233 (Eq232.keep K233) (Cq232.keep K233 nin0) (Vq232.keep K233 nin0) (Aq232.keep K233 nin0)
      · rw [hm]
        show own_Fin p e below _ (T232.setTop (mkF m 202 #[.val (.int p1), .val (.int p2), .val (.int p3), .val (.int s0), .val (.int s1), .val (.int s2), .val (.int (2 : Int32)), .val (.int w0), .val (.int w1), .val (.int w2), .val (.int w3), .val (.int (1 : Int32)), .val (.ref x232), .unset, .unset, .unset, .unset] []))
        refine o_ild X232 H at_202 rfl ?_
        refine o_ild X232 H at_204 rfl ?_
        refine o_ild X232 H at_206 rfl ?_
        refine o_ild X232 H at_208 rfl ?_
        refine o_ild X232 H at_210 rfl ?_
        refine o_tc (argsL := [(.int w0), (.int w1), (.int w2), (.int w3), (.int (1 : Int32))]) (rest := []) X232 H hml hZ hown (ow hw 0 rfl) (ow hw 1 rfl) (ow hw 2 rfl) (ow hw 3 rfl) (backOf (W := 0) (rmMk1 l Z a0 hw [] w0 w1 w2 w3 z T232.heap n0 (by exact (Nat.le_trans Z0 K232.1)) rw0 rw1 rw2 rw3 hz (O.keep K232 all0) SC) hZ (ow hw 3 rfl) (ow hw 2 rfl) (by decide) (by decide)) (by decide) rfl pd_24 at_212 rfl rfl rfl rfl rfl (by decide) (by decide) fun _ T236 Lc236 X236 hQ236 => ?_
        obtain ⟨x236, t236, kt236, rfl, N236q, K236, Eq236, Cq236, Vq236, Aq236⟩ := hQ236
        have N236 := Fr.app N232 N236q
        show own_Fin p e below _ (T236.setTop (mkF m 215 #[.val (.int p1), .val (.int p2), .val (.int p3), .val (.int s0), .val (.int s1), .val (.int s2), .val (.int (2 : Int32)), .val (.int w0), .val (.int w1), .val (.int w2), .val (.int w3), .val (.int (1 : Int32)), .val (.ref x232), .unset, .unset, .unset, .unset] [(.ref x236)]))
        refine o_ast X236 H at_215 (L' := #[.val (.int p1), .val (.int p2), .val (.int p3), .val (.int s0), .val (.int s1), .val (.int s2), .val (.int (2 : Int32)), .val (.int w0), .val (.int w1), .val (.int w2), .val (.int w3), .val (.int (1 : Int32)), .val (.ref x232), .val (.ref x236), .unset, .unset, .unset]) rfl rfl ?_
        refine o_ild X236 H at_217 rfl ?_
        refine o_ic X236 H at_219 (v := 1) rfl ?_
        refine o_icN X236 H at_220 (flt (by decide : ¬ ((2 : Int32) < (1 : Int32)))).1 ?_
        refine o_ild X236 H at_223 rfl ?_
        refine o_ildN X236 H at_225 rfl ?_
        by_cases hc237 : w0 = s0
        · refine o_icN X236 H at_226 (teq hc237).2 ?_
          refine o_ild X236 H at_229 rfl ?_
          refine o_ic X236 H at_231 (v := 2) rfl ?_
          refine o_icN X236 H at_232 (flt (by decide : ¬ ((2 : Int32) < (2 : Int32)))).1 ?_
          refine o_ild X236 H at_235 rfl ?_
          refine o_ild X236 H at_237 rfl ?_
          by_cases hc238 : w1 = s1
          · refine o_icN X236 H at_239 (teq hc238).2 ?_
            refine o_ild X236 H at_242 rfl ?_
            refine o_ic X236 H at_244 (v := 3) rfl ?_
            refine o_icY X236 H at_245 (tlt (by decide : (2 : Int32) < (3 : Int32))).1 (pc' := 255) (by decide) (by decide) ?_
            refine o_ic X236 H at_255 (v := 1) rfl ?_
            refine o_go X236 H at_256 (pc' := 260) (by decide) (by decide) ?_
            refine o_ist X236 H at_260 (L' := #[.val (.int p1), .val (.int p2), .val (.int p3), .val (.int s0), .val (.int s1), .val (.int s2), .val (.int (2 : Int32)), .val (.int w0), .val (.int w1), .val (.int w2), .val (.int w3), .val (.int (1 : Int32)), .val (.ref x232), .val (.ref x236), .val (.int (1 : Int32)), .unset, .unset]) rfl ?_
            refine o_ild X236 H at_262 rfl ?_
            refine o_ifY X236 H at_264 ((if0 _ _).trans (feq (by decide : ¬ ((2 : Int32) = (0 : Int32)))).2) (pc' := 272) (by decide) (by decide) ?_
            refine o_ild X236 H at_272 rfl ?_
            refine o_ic X236 H at_274 (v := 1) rfl ?_
            refine o_icY X236 H at_275 (feq (by decide : ¬ ((2 : Int32) = (1 : Int32)))).2 (pc' := 283) (by decide) (by decide) ?_
            refine o_ild X236 H at_283 rfl ?_
            refine o_ic X236 H at_285 (v := 2) rfl ?_
            refine o_icN X236 H at_286 (teq (by decide : (2 : Int32) = (2 : Int32))).2 ?_
            refine o_ild X236 H at_289 rfl ?_
            refine o_go X236 H at_291 (pc' := 296) (by decide) (by decide) ?_
            refine o_ist X236 H at_296 (L' := #[.val (.int p1), .val (.int p2), .val (.int p3), .val (.int s0), .val (.int s1), .val (.int s2), .val (.int (2 : Int32)), .val (.int w0), .val (.int w1), .val (.int w2), .val (.int w3), .val (.int (1 : Int32)), .val (.ref x232), .val (.ref x236), .val (.int (1 : Int32)), .val (.int w2), .unset]) rfl ?_
            refine o_ild X236 H at_298 rfl ?_
            refine o_ild X236 H at_300 rfl ?_
            refine o_icY X236 H at_302 (tlt (by decide : (1 : Int32) < (2 : Int32))).1 (pc' := 328) (by decide) (by decide) ?_
            refine o_ic X236 H at_328 (v := 0) rfl ?_
            refine o_ist X236 H at_329 (L' := #[.val (.int p1), .val (.int p2), .val (.int p3), .val (.int s0), .val (.int s1), .val (.int s2), .val (.int (2 : Int32)), .val (.int w0), .val (.int w1), .val (.int w2), .val (.int w3), .val (.int (1 : Int32)), .val (.ref x232), .val (.ref x236), .val (.int (1 : Int32)), .val (.int w2), .val (.int (0 : Int32))]) rfl ?_
            exact PT _ _ _ _ _ _ _ _ _ _ _ _ _ _ x236 t236 x232 t232 kt236 kt232 1 2 [w0] [s0, s1] _ rfl rfl (by decide) (by decide) (List.forall_mem_cons.mpr ⟨rw0, fun _ q => nomatch q⟩) (List.forall_mem_cons.mpr ⟨rs0, List.forall_mem_cons.mpr ⟨rs1, fun _ q => nomatch q⟩⟩) (Or.inr ⟨rfl, (own_U_1_2 w0 s0 s1)⟩) T236 _ _ _ _ (X236.more (by decide) (by decide)) rfl N236 hS0 hZ hown (CHv.keep K236 sf0 (CHv.keep K232 sf0 CH0)) (CHr.trans (CHr.trans (CHr.refl CH0) (CHr.keep K232 sf0 CH0)) (CHr.keep K236 sf0 (CHv.keep K232 sf0 CH0))) (Nat.le_trans (Nat.le_trans (Nat.zero_le _) K232.1) K236.1) (Nat.le_trans (Nat.le_trans Z0 K232.1) K236.1) ((O.keep K232 all0).keep K236 all0) Eq236 Cq236 Vq236 Aq236 (Eq232.keep K236) (Cq232.keep K236 nin0) (Vq232.keep K236 nin0) (Aq232.keep K236 nin0)
          · refine o_icY X236 H at_239 (feq hc238).2 (pc' := 259) (by decide) (by decide) ?_
            refine o_ic X236 H at_259 (v := 0) rfl ?_
            refine o_ist X236 H at_260 (L' := #[.val (.int p1), .val (.int p2), .val (.int p3), .val (.int s0), .val (.int s1), .val (.int s2), .val (.int (2 : Int32)), .val (.int w0), .val (.int w1), .val (.int w2), .val (.int w3), .val (.int (1 : Int32)), .val (.ref x232), .val (.ref x236), .val (.int (0 : Int32)), .unset, .unset]) rfl ?_
            refine o_ild X236 H at_262 rfl ?_
            refine o_ifY X236 H at_264 ((if0 _ _).trans (feq (by decide : ¬ ((2 : Int32) = (0 : Int32)))).2) (pc' := 272) (by decide) (by decide) ?_
            refine o_ild X236 H at_272 rfl ?_
            refine o_ic X236 H at_274 (v := 1) rfl ?_
            refine o_icY X236 H at_275 (feq (by decide : ¬ ((2 : Int32) = (1 : Int32)))).2 (pc' := 283) (by decide) (by decide) ?_
            refine o_ild X236 H at_283 rfl ?_
            refine o_ic X236 H at_285 (v := 2) rfl ?_
            refine o_icN X236 H at_286 (teq (by decide : (2 : Int32) = (2 : Int32))).2 ?_
            refine o_ild X236 H at_289 rfl ?_
            refine o_go X236 H at_291 (pc' := 296) (by decide) (by decide) ?_
            refine o_ist X236 H at_296 (L' := #[.val (.int p1), .val (.int p2), .val (.int p3), .val (.int s0), .val (.int s1), .val (.int s2), .val (.int (2 : Int32)), .val (.int w0), .val (.int w1), .val (.int w2), .val (.int w3), .val (.int (1 : Int32)), .val (.ref x232), .val (.ref x236), .val (.int (0 : Int32)), .val (.int w2), .unset]) rfl ?_
            refine o_ild X236 H at_298 rfl ?_
            refine o_ild X236 H at_300 rfl ?_
            refine o_icY X236 H at_302 (tlt (by decide : (1 : Int32) < (2 : Int32))).1 (pc' := 328) (by decide) (by decide) ?_
            refine o_ic X236 H at_328 (v := 0) rfl ?_
            refine o_ist X236 H at_329 (L' := #[.val (.int p1), .val (.int p2), .val (.int p3), .val (.int s0), .val (.int s1), .val (.int s2), .val (.int (2 : Int32)), .val (.int w0), .val (.int w1), .val (.int w2), .val (.int w3), .val (.int (1 : Int32)), .val (.ref x232), .val (.ref x236), .val (.int (0 : Int32)), .val (.int w2), .val (.int (0 : Int32))]) rfl ?_
            exact PT _ _ _ _ _ _ _ _ _ _ _ _ _ _ x236 t236 x232 t232 kt236 kt232 1 2 [w0] [s0, s1] _ rfl rfl (by decide) (by decide) (List.forall_mem_cons.mpr ⟨rw0, fun _ q => nomatch q⟩) (List.forall_mem_cons.mpr ⟨rs0, List.forall_mem_cons.mpr ⟨rs1, fun _ q => nomatch q⟩⟩) (Or.inr ⟨rfl, (own_U_1_2 w0 s0 s1)⟩) T236 _ _ _ _ (X236.more (by decide) (by decide)) rfl N236 hS0 hZ hown (CHv.keep K236 sf0 (CHv.keep K232 sf0 CH0)) (CHr.trans (CHr.trans (CHr.refl CH0) (CHr.keep K232 sf0 CH0)) (CHr.keep K236 sf0 (CHv.keep K232 sf0 CH0))) (Nat.le_trans (Nat.le_trans (Nat.zero_le _) K232.1) K236.1) (Nat.le_trans (Nat.le_trans Z0 K232.1) K236.1) ((O.keep K232 all0).keep K236 all0) Eq236 Cq236 Vq236 Aq236 (Eq232.keep K236) (Cq232.keep K236 nin0) (Vq232.keep K236 nin0) (Aq232.keep K236 nin0)
        · refine o_icY X236 H at_226 (feq hc237).2 (pc' := 259) (by decide) (by decide) ?_
          refine o_ic X236 H at_259 (v := 0) rfl ?_
          refine o_ist X236 H at_260 (L' := #[.val (.int p1), .val (.int p2), .val (.int p3), .val (.int s0), .val (.int s1), .val (.int s2), .val (.int (2 : Int32)), .val (.int w0), .val (.int w1), .val (.int w2), .val (.int w3), .val (.int (1 : Int32)), .val (.ref x232), .val (.ref x236), .val (.int (0 : Int32)), .unset, .unset]) rfl ?_
          refine o_ild X236 H at_262 rfl ?_
          refine o_ifY X236 H at_264 ((if0 _ _).trans (feq (by decide : ¬ ((2 : Int32) = (0 : Int32)))).2) (pc' := 272) (by decide) (by decide) ?_
          refine o_ild X236 H at_272 rfl ?_
          refine o_ic X236 H at_274 (v := 1) rfl ?_
          refine o_icY X236 H at_275 (feq (by decide : ¬ ((2 : Int32) = (1 : Int32)))).2 (pc' := 283) (by decide) (by decide) ?_
          refine o_ild X236 H at_283 rfl ?_
          refine o_ic X236 H at_285 (v := 2) rfl ?_
          refine o_icN X236 H at_286 (teq (by decide : (2 : Int32) = (2 : Int32))).2 ?_
          refine o_ild X236 H at_289 rfl ?_
          refine o_go X236 H at_291 (pc' := 296) (by decide) (by decide) ?_
          refine o_ist X236 H at_296 (L' := #[.val (.int p1), .val (.int p2), .val (.int p3), .val (.int s0), .val (.int s1), .val (.int s2), .val (.int (2 : Int32)), .val (.int w0), .val (.int w1), .val (.int w2), .val (.int w3), .val (.int (1 : Int32)), .val (.ref x232), .val (.ref x236), .val (.int (0 : Int32)), .val (.int w2), .unset]) rfl ?_
          refine o_ild X236 H at_298 rfl ?_
          refine o_ild X236 H at_300 rfl ?_
          refine o_icY X236 H at_302 (tlt (by decide : (1 : Int32) < (2 : Int32))).1 (pc' := 328) (by decide) (by decide) ?_
          refine o_ic X236 H at_328 (v := 0) rfl ?_
          refine o_ist X236 H at_329 (L' := #[.val (.int p1), .val (.int p2), .val (.int p3), .val (.int s0), .val (.int s1), .val (.int s2), .val (.int (2 : Int32)), .val (.int w0), .val (.int w1), .val (.int w2), .val (.int w3), .val (.int (1 : Int32)), .val (.ref x232), .val (.ref x236), .val (.int (0 : Int32)), .val (.int w2), .val (.int (0 : Int32))]) rfl ?_
          exact PT _ _ _ _ _ _ _ _ _ _ _ _ _ _ x236 t236 x232 t232 kt236 kt232 1 2 [w0] [s0, s1] _ rfl rfl (by decide) (by decide) (List.forall_mem_cons.mpr ⟨rw0, fun _ q => nomatch q⟩) (List.forall_mem_cons.mpr ⟨rs0, List.forall_mem_cons.mpr ⟨rs1, fun _ q => nomatch q⟩⟩) (Or.inr ⟨rfl, (own_U_1_2 w0 s0 s1)⟩) T236 _ _ _ _ (X236.more (by decide) (by decide)) rfl N236 hS0 hZ hown (CHv.keep K236 sf0 (CHv.keep K232 sf0 CH0)) (CHr.trans (CHr.trans (CHr.refl CH0) (CHr.keep K232 sf0 CH0)) (CHr.keep K236 sf0 (CHv.keep K232 sf0 CH0))) (Nat.le_trans (Nat.le_trans (Nat.zero_le _) K232.1) K236.1) (Nat.le_trans (Nat.le_trans Z0 K232.1) K236.1) ((O.keep K232 all0).keep K236 all0) Eq236 Cq236 Vq236 Aq236 (Eq232.keep K236) (Cq232.keep K236 nin0) (Vq232.keep K236 nin0) (Aq232.keep K236 nin0)
      · rw [hm]
        show own_Fin p e below _ (T232.setTop (mkF m 202 #[.val (.int p1), .val (.int p2), .val (.int p3), .val (.int s0), .val (.int s1), .val (.int s2), .val (.int (2 : Int32)), .val (.int w0), .val (.int w1), .val (.int w2), .val (.int w3), .val (.int (2 : Int32)), .val (.ref x232), .unset, .unset, .unset, .unset] []))
        refine o_ild X232 H at_202 rfl ?_
        refine o_ild X232 H at_204 rfl ?_
        refine o_ild X232 H at_206 rfl ?_
        refine o_ild X232 H at_208 rfl ?_
        refine o_ild X232 H at_210 rfl ?_
        refine o_tc (argsL := [(.int w0), (.int w1), (.int w2), (.int w3), (.int (2 : Int32))]) (rest := []) X232 H hml hZ hown (ow hw 0 rfl) (ow hw 1 rfl) (ow hw 2 rfl) (ow hw 3 rfl) (backOf (W := 0) (rmMk2 l Z a0 hw [] w0 w1 w2 w3 z T232.heap n0 (by exact (Nat.le_trans Z0 K232.1)) rw0 rw1 rw2 rw3 hz (O.keep K232 all0) SC) hZ (ow hw 3 rfl) (ow hw 2 rfl) (by decide) (by decide)) (by decide) rfl pd_24 at_212 rfl rfl rfl rfl rfl (by decide) (by decide) fun _ T239 Lc239 X239 hQ239 => ?_
        obtain ⟨x239, t239, kt239, rfl, N239q, K239, Eq239, Cq239, Vq239, Aq239⟩ := hQ239
        have N239 := Fr.app N232 N239q
        show own_Fin p e below _ (T239.setTop (mkF m 215 #[.val (.int p1), .val (.int p2), .val (.int p3), .val (.int s0), .val (.int s1), .val (.int s2), .val (.int (2 : Int32)), .val (.int w0), .val (.int w1), .val (.int w2), .val (.int w3), .val (.int (2 : Int32)), .val (.ref x232), .unset, .unset, .unset, .unset] [(.ref x239)]))
        refine o_ast X239 H at_215 (L' := #[.val (.int p1), .val (.int p2), .val (.int p3), .val (.int s0), .val (.int s1), .val (.int s2), .val (.int (2 : Int32)), .val (.int w0), .val (.int w1), .val (.int w2), .val (.int w3), .val (.int (2 : Int32)), .val (.ref x232), .val (.ref x239), .unset, .unset, .unset]) rfl rfl ?_
        refine o_ild X239 H at_217 rfl ?_
        refine o_ic X239 H at_219 (v := 1) rfl ?_
        refine o_icN X239 H at_220 (flt (by decide : ¬ ((2 : Int32) < (1 : Int32)))).1 ?_
        refine o_ild X239 H at_223 rfl ?_
        refine o_ildN X239 H at_225 rfl ?_
        by_cases hc240 : w0 = s0
        · refine o_icN X239 H at_226 (teq hc240).2 ?_
          refine o_ild X239 H at_229 rfl ?_
          refine o_ic X239 H at_231 (v := 2) rfl ?_
          refine o_icN X239 H at_232 (flt (by decide : ¬ ((2 : Int32) < (2 : Int32)))).1 ?_
          refine o_ild X239 H at_235 rfl ?_
          refine o_ild X239 H at_237 rfl ?_
          by_cases hc241 : w1 = s1
          · refine o_icN X239 H at_239 (teq hc241).2 ?_
            refine o_ild X239 H at_242 rfl ?_
            refine o_ic X239 H at_244 (v := 3) rfl ?_
            refine o_icY X239 H at_245 (tlt (by decide : (2 : Int32) < (3 : Int32))).1 (pc' := 255) (by decide) (by decide) ?_
            refine o_ic X239 H at_255 (v := 1) rfl ?_
            refine o_go X239 H at_256 (pc' := 260) (by decide) (by decide) ?_
            refine o_ist X239 H at_260 (L' := #[.val (.int p1), .val (.int p2), .val (.int p3), .val (.int s0), .val (.int s1), .val (.int s2), .val (.int (2 : Int32)), .val (.int w0), .val (.int w1), .val (.int w2), .val (.int w3), .val (.int (2 : Int32)), .val (.ref x232), .val (.ref x239), .val (.int (1 : Int32)), .unset, .unset]) rfl ?_
            refine o_ild X239 H at_262 rfl ?_
            refine o_ifY X239 H at_264 ((if0 _ _).trans (feq (by decide : ¬ ((2 : Int32) = (0 : Int32)))).2) (pc' := 272) (by decide) (by decide) ?_
            refine o_ild X239 H at_272 rfl ?_
            refine o_ic X239 H at_274 (v := 1) rfl ?_
            refine o_icY X239 H at_275 (feq (by decide : ¬ ((2 : Int32) = (1 : Int32)))).2 (pc' := 283) (by decide) (by decide) ?_
            refine o_ild X239 H at_283 rfl ?_
            refine o_ic X239 H at_285 (v := 2) rfl ?_
            refine o_icN X239 H at_286 (teq (by decide : (2 : Int32) = (2 : Int32))).2 ?_
            refine o_ild X239 H at_289 rfl ?_
            refine o_go X239 H at_291 (pc' := 296) (by decide) (by decide) ?_
            refine o_ist X239 H at_296 (L' := #[.val (.int p1), .val (.int p2), .val (.int p3), .val (.int s0), .val (.int s1), .val (.int s2), .val (.int (2 : Int32)), .val (.int w0), .val (.int w1), .val (.int w2), .val (.int w3), .val (.int (2 : Int32)), .val (.ref x232), .val (.ref x239), .val (.int (1 : Int32)), .val (.int w2), .unset]) rfl ?_
            refine o_ild X239 H at_298 rfl ?_
            refine o_ild X239 H at_300 rfl ?_
            refine o_icN X239 H at_302 (flt (by decide : ¬ ((2 : Int32) < (2 : Int32)))).1 ?_
            refine o_ild X239 H at_305 rfl ?_
            refine o_ifN X239 H at_307 ((if0 _ _).trans (feq (by decide : ¬ ((1 : Int32) = (0 : Int32)))).1) ?_
            refine o_ild X239 H at_310 rfl ?_
            refine o_ild X239 H at_312 rfl ?_
            refine o_icY X239 H at_314 (teq (by decide : (2 : Int32) = (2 : Int32))).1 (pc' := 324) (by decide) (by decide) ?_
            refine o_ic X239 H at_324 (v := 1) rfl ?_
            refine o_go X239 H at_325 (pc' := 329) (by decide) (by decide) ?_
            refine o_ist X239 H at_329 (L' := #[.val (.int p1), .val (.int p2), .val (.int p3), .val (.int s0), .val (.int s1), .val (.int s2), .val (.int (2 : Int32)), .val (.int w0), .val (.int w1), .val (.int w2), .val (.int w3), .val (.int (2 : Int32)), .val (.ref x232), .val (.ref x239), .val (.int (1 : Int32)), .val (.int w2), .val (.int (1 : Int32))]) rfl ?_
            exact PT _ _ _ _ _ _ _ _ _ _ _ _ _ _ x239 t239 x232 t232 kt239 kt232 2 2 [w0, w1] [s0, s1] _ rfl rfl (by decide) (by decide) (List.forall_mem_cons.mpr ⟨rw0, List.forall_mem_cons.mpr ⟨rw1, fun _ q => nomatch q⟩⟩) (List.forall_mem_cons.mpr ⟨rs0, List.forall_mem_cons.mpr ⟨rs1, fun _ q => nomatch q⟩⟩) (Or.inl ⟨rfl, (own_U_2_2 w0 w1 s0 s1).mpr ⟨hc240, hc241⟩⟩) T239 _ _ _ _ (X239.more (by decide) (by decide)) rfl N239 hS0 hZ hown (CHv.keep K239 sf0 (CHv.keep K232 sf0 CH0)) (CHr.trans (CHr.trans (CHr.refl CH0) (CHr.keep K232 sf0 CH0)) (CHr.keep K239 sf0 (CHv.keep K232 sf0 CH0))) (Nat.le_trans (Nat.le_trans (Nat.zero_le _) K232.1) K239.1) (Nat.le_trans (Nat.le_trans Z0 K232.1) K239.1) ((O.keep K232 all0).keep K239 all0) Eq239 Cq239 Vq239 Aq239 (Eq232.keep K239) (Cq232.keep K239 nin0) (Vq232.keep K239 nin0) (Aq232.keep K239 nin0)
          · refine o_icY X239 H at_239 (feq hc241).2 (pc' := 259) (by decide) (by decide) ?_
            refine o_ic X239 H at_259 (v := 0) rfl ?_
            refine o_ist X239 H at_260 (L' := #[.val (.int p1), .val (.int p2), .val (.int p3), .val (.int s0), .val (.int s1), .val (.int s2), .val (.int (2 : Int32)), .val (.int w0), .val (.int w1), .val (.int w2), .val (.int w3), .val (.int (2 : Int32)), .val (.ref x232), .val (.ref x239), .val (.int (0 : Int32)), .unset, .unset]) rfl ?_
            refine o_ild X239 H at_262 rfl ?_
            refine o_ifY X239 H at_264 ((if0 _ _).trans (feq (by decide : ¬ ((2 : Int32) = (0 : Int32)))).2) (pc' := 272) (by decide) (by decide) ?_
            refine o_ild X239 H at_272 rfl ?_
            refine o_ic X239 H at_274 (v := 1) rfl ?_
            refine o_icY X239 H at_275 (feq (by decide : ¬ ((2 : Int32) = (1 : Int32)))).2 (pc' := 283) (by decide) (by decide) ?_
            refine o_ild X239 H at_283 rfl ?_
            refine o_ic X239 H at_285 (v := 2) rfl ?_
            refine o_icN X239 H at_286 (teq (by decide : (2 : Int32) = (2 : Int32))).2 ?_
            refine o_ild X239 H at_289 rfl ?_
            refine o_go X239 H at_291 (pc' := 296) (by decide) (by decide) ?_
            refine o_ist X239 H at_296 (L' := #[.val (.int p1), .val (.int p2), .val (.int p3), .val (.int s0), .val (.int s1), .val (.int s2), .val (.int (2 : Int32)), .val (.int w0), .val (.int w1), .val (.int w2), .val (.int w3), .val (.int (2 : Int32)), .val (.ref x232), .val (.ref x239), .val (.int (0 : Int32)), .val (.int w2), .unset]) rfl ?_
            refine o_ild X239 H at_298 rfl ?_
            refine o_ild X239 H at_300 rfl ?_
            refine o_icN X239 H at_302 (flt (by decide : ¬ ((2 : Int32) < (2 : Int32)))).1 ?_
            refine o_ild X239 H at_305 rfl ?_
            refine o_ifY X239 H at_307 ((if0 _ _).trans (teq (by decide : (0 : Int32) = (0 : Int32))).1) (pc' := 328) (by decide) (by decide) ?_
            refine o_ic X239 H at_328 (v := 0) rfl ?_
            refine o_ist X239 H at_329 (L' := #[.val (.int p1), .val (.int p2), .val (.int p3), .val (.int s0), .val (.int s1), .val (.int s2), .val (.int (2 : Int32)), .val (.int w0), .val (.int w1), .val (.int w2), .val (.int w3), .val (.int (2 : Int32)), .val (.ref x232), .val (.ref x239), .val (.int (0 : Int32)), .val (.int w2), .val (.int (0 : Int32))]) rfl ?_
            exact PT _ _ _ _ _ _ _ _ _ _ _ _ _ _ x239 t239 x232 t232 kt239 kt232 2 2 [w0, w1] [s0, s1] _ rfl rfl (by decide) (by decide) (List.forall_mem_cons.mpr ⟨rw0, List.forall_mem_cons.mpr ⟨rw1, fun _ q => nomatch q⟩⟩) (List.forall_mem_cons.mpr ⟨rs0, List.forall_mem_cons.mpr ⟨rs1, fun _ q => nomatch q⟩⟩) (Or.inr ⟨rfl, fun u => absurd (((own_U_2_2 w0 w1 s0 s1).mp u).2) hc241⟩) T239 _ _ _ _ (X239.more (by decide) (by decide)) rfl N239 hS0 hZ hown (CHv.keep K239 sf0 (CHv.keep K232 sf0 CH0)) (CHr.trans (CHr.trans (CHr.refl CH0) (CHr.keep K232 sf0 CH0)) (CHr.keep K239 sf0 (CHv.keep K232 sf0 CH0))) (Nat.le_trans (Nat.le_trans (Nat.zero_le _) K232.1) K239.1) (Nat.le_trans (Nat.le_trans Z0 K232.1) K239.1) ((O.keep K232 all0).keep K239 all0) Eq239 Cq239 Vq239 Aq239 (Eq232.keep K239) (Cq232.keep K239 nin0) (Vq232.keep K239 nin0) (Aq232.keep K239 nin0)
        · refine o_icY X239 H at_226 (feq hc240).2 (pc' := 259) (by decide) (by decide) ?_
          refine o_ic X239 H at_259 (v := 0) rfl ?_
          refine o_ist X239 H at_260 (L' := #[.val (.int p1), .val (.int p2), .val (.int p3), .val (.int s0), .val (.int s1), .val (.int s2), .val (.int (2 : Int32)), .val (.int w0), .val (.int w1), .val (.int w2), .val (.int w3), .val (.int (2 : Int32)), .val (.ref x232), .val (.ref x239), .val (.int (0 : Int32)), .unset, .unset]) rfl ?_
          refine o_ild X239 H at_262 rfl ?_
          refine o_ifY X239 H at_264 ((if0 _ _).trans (feq (by decide : ¬ ((2 : Int32) = (0 : Int32)))).2) (pc' := 272) (by decide) (by decide) ?_
          refine o_ild X239 H at_272 rfl ?_
          refine o_ic X239 H at_274 (v := 1) rfl ?_
          refine o_icY X239 H at_275 (feq (by decide : ¬ ((2 : Int32) = (1 : Int32)))).2 (pc' := 283) (by decide) (by decide) ?_
          refine o_ild X239 H at_283 rfl ?_
          refine o_ic X239 H at_285 (v := 2) rfl ?_
          refine o_icN X239 H at_286 (teq (by decide : (2 : Int32) = (2 : Int32))).2 ?_
          refine o_ild X239 H at_289 rfl ?_
          refine o_go X239 H at_291 (pc' := 296) (by decide) (by decide) ?_
          refine o_ist X239 H at_296 (L' := #[.val (.int p1), .val (.int p2), .val (.int p3), .val (.int s0), .val (.int s1), .val (.int s2), .val (.int (2 : Int32)), .val (.int w0), .val (.int w1), .val (.int w2), .val (.int w3), .val (.int (2 : Int32)), .val (.ref x232), .val (.ref x239), .val (.int (0 : Int32)), .val (.int w2), .unset]) rfl ?_
          refine o_ild X239 H at_298 rfl ?_
          refine o_ild X239 H at_300 rfl ?_
          refine o_icN X239 H at_302 (flt (by decide : ¬ ((2 : Int32) < (2 : Int32)))).1 ?_
          refine o_ild X239 H at_305 rfl ?_
          refine o_ifY X239 H at_307 ((if0 _ _).trans (teq (by decide : (0 : Int32) = (0 : Int32))).1) (pc' := 328) (by decide) (by decide) ?_
          refine o_ic X239 H at_328 (v := 0) rfl ?_
          refine o_ist X239 H at_329 (L' := #[.val (.int p1), .val (.int p2), .val (.int p3), .val (.int s0), .val (.int s1), .val (.int s2), .val (.int (2 : Int32)), .val (.int w0), .val (.int w1), .val (.int w2), .val (.int w3), .val (.int (2 : Int32)), .val (.ref x232), .val (.ref x239), .val (.int (0 : Int32)), .val (.int w2), .val (.int (0 : Int32))]) rfl ?_
          exact PT _ _ _ _ _ _ _ _ _ _ _ _ _ _ x239 t239 x232 t232 kt239 kt232 2 2 [w0, w1] [s0, s1] _ rfl rfl (by decide) (by decide) (List.forall_mem_cons.mpr ⟨rw0, List.forall_mem_cons.mpr ⟨rw1, fun _ q => nomatch q⟩⟩) (List.forall_mem_cons.mpr ⟨rs0, List.forall_mem_cons.mpr ⟨rs1, fun _ q => nomatch q⟩⟩) (Or.inr ⟨rfl, fun u => absurd (((own_U_2_2 w0 w1 s0 s1).mp u).1) hc240⟩) T239 _ _ _ _ (X239.more (by decide) (by decide)) rfl N239 hS0 hZ hown (CHv.keep K239 sf0 (CHv.keep K232 sf0 CH0)) (CHr.trans (CHr.trans (CHr.refl CH0) (CHr.keep K232 sf0 CH0)) (CHr.keep K239 sf0 (CHv.keep K232 sf0 CH0))) (Nat.le_trans (Nat.le_trans (Nat.zero_le _) K232.1) K239.1) (Nat.le_trans (Nat.le_trans Z0 K232.1) K239.1) ((O.keep K232 all0).keep K239 all0) Eq239 Cq239 Vq239 Aq239 (Eq232.keep K239) (Cq232.keep K239 nin0) (Vq232.keep K239 nin0) (Aq232.keep K239 nin0)
      · rw [hm]
        show own_Fin p e below _ (T232.setTop (mkF m 202 #[.val (.int p1), .val (.int p2), .val (.int p3), .val (.int s0), .val (.int s1), .val (.int s2), .val (.int (2 : Int32)), .val (.int w0), .val (.int w1), .val (.int w2), .val (.int w3), .val (.int (3 : Int32)), .val (.ref x232), .unset, .unset, .unset, .unset] []))
        refine o_ild X232 H at_202 rfl ?_
        refine o_ild X232 H at_204 rfl ?_
        refine o_ild X232 H at_206 rfl ?_
        refine o_ild X232 H at_208 rfl ?_
        refine o_ild X232 H at_210 rfl ?_
        refine o_tc (argsL := [(.int w0), (.int w1), (.int w2), (.int w3), (.int (3 : Int32))]) (rest := []) X232 H hml hZ hown (ow hw 0 rfl) (ow hw 1 rfl) (ow hw 2 rfl) (ow hw 3 rfl) (backOf (W := 0) (rmMk3 l Z a0 hw [] w0 w1 w2 w3 z T232.heap n0 (by exact (Nat.le_trans Z0 K232.1)) rw0 rw1 rw2 rw3 hz (O.keep K232 all0) SC) hZ (ow hw 3 rfl) (ow hw 2 rfl) (by decide) (by decide)) (by decide) rfl pd_24 at_212 rfl rfl rfl rfl rfl (by decide) (by decide) fun _ T242 Lc242 X242 hQ242 => ?_
        obtain ⟨x242, t242, kt242, rfl, N242q, K242, Eq242, Cq242, Vq242, Aq242⟩ := hQ242
        have N242 := Fr.app N232 N242q
        show own_Fin p e below _ (T242.setTop (mkF m 215 #[.val (.int p1), .val (.int p2), .val (.int p3), .val (.int s0), .val (.int s1), .val (.int s2), .val (.int (2 : Int32)), .val (.int w0), .val (.int w1), .val (.int w2), .val (.int w3), .val (.int (3 : Int32)), .val (.ref x232), .unset, .unset, .unset, .unset] [(.ref x242)]))
        refine o_ast X242 H at_215 (L' := #[.val (.int p1), .val (.int p2), .val (.int p3), .val (.int s0), .val (.int s1), .val (.int s2), .val (.int (2 : Int32)), .val (.int w0), .val (.int w1), .val (.int w2), .val (.int w3), .val (.int (3 : Int32)), .val (.ref x232), .val (.ref x242), .unset, .unset, .unset]) rfl rfl ?_
        refine o_ild X242 H at_217 rfl ?_
        refine o_ic X242 H at_219 (v := 1) rfl ?_
        refine o_icN X242 H at_220 (flt (by decide : ¬ ((2 : Int32) < (1 : Int32)))).1 ?_
        refine o_ild X242 H at_223 rfl ?_
        refine o_ildN X242 H at_225 rfl ?_
        by_cases hc243 : w0 = s0
        · refine o_icN X242 H at_226 (teq hc243).2 ?_
          refine o_ild X242 H at_229 rfl ?_
          refine o_ic X242 H at_231 (v := 2) rfl ?_
          refine o_icN X242 H at_232 (flt (by decide : ¬ ((2 : Int32) < (2 : Int32)))).1 ?_
          refine o_ild X242 H at_235 rfl ?_
          refine o_ild X242 H at_237 rfl ?_
          by_cases hc244 : w1 = s1
          · refine o_icN X242 H at_239 (teq hc244).2 ?_
            refine o_ild X242 H at_242 rfl ?_
            refine o_ic X242 H at_244 (v := 3) rfl ?_
            refine o_icY X242 H at_245 (tlt (by decide : (2 : Int32) < (3 : Int32))).1 (pc' := 255) (by decide) (by decide) ?_
            refine o_ic X242 H at_255 (v := 1) rfl ?_
            refine o_go X242 H at_256 (pc' := 260) (by decide) (by decide) ?_
            refine o_ist X242 H at_260 (L' := #[.val (.int p1), .val (.int p2), .val (.int p3), .val (.int s0), .val (.int s1), .val (.int s2), .val (.int (2 : Int32)), .val (.int w0), .val (.int w1), .val (.int w2), .val (.int w3), .val (.int (3 : Int32)), .val (.ref x232), .val (.ref x242), .val (.int (1 : Int32)), .unset, .unset]) rfl ?_
            refine o_ild X242 H at_262 rfl ?_
            refine o_ifY X242 H at_264 ((if0 _ _).trans (feq (by decide : ¬ ((2 : Int32) = (0 : Int32)))).2) (pc' := 272) (by decide) (by decide) ?_
            refine o_ild X242 H at_272 rfl ?_
            refine o_ic X242 H at_274 (v := 1) rfl ?_
            refine o_icY X242 H at_275 (feq (by decide : ¬ ((2 : Int32) = (1 : Int32)))).2 (pc' := 283) (by decide) (by decide) ?_
            refine o_ild X242 H at_283 rfl ?_
            refine o_ic X242 H at_285 (v := 2) rfl ?_
            refine o_icN X242 H at_286 (teq (by decide : (2 : Int32) = (2 : Int32))).2 ?_
            refine o_ild X242 H at_289 rfl ?_
            refine o_go X242 H at_291 (pc' := 296) (by decide) (by decide) ?_
            refine o_ist X242 H at_296 (L' := #[.val (.int p1), .val (.int p2), .val (.int p3), .val (.int s0), .val (.int s1), .val (.int s2), .val (.int (2 : Int32)), .val (.int w0), .val (.int w1), .val (.int w2), .val (.int w3), .val (.int (3 : Int32)), .val (.ref x232), .val (.ref x242), .val (.int (1 : Int32)), .val (.int w2), .unset]) rfl ?_
            refine o_ild X242 H at_298 rfl ?_
            refine o_ild X242 H at_300 rfl ?_
            refine o_icN X242 H at_302 (flt (by decide : ¬ ((3 : Int32) < (2 : Int32)))).1 ?_
            refine o_ild X242 H at_305 rfl ?_
            refine o_ifN X242 H at_307 ((if0 _ _).trans (feq (by decide : ¬ ((1 : Int32) = (0 : Int32)))).1) ?_
            refine o_ild X242 H at_310 rfl ?_
            refine o_ild X242 H at_312 rfl ?_
            refine o_icN X242 H at_314 (feq (by decide : ¬ ((3 : Int32) = (2 : Int32)))).1 ?_
            refine o_ild X242 H at_317 rfl ?_
            refine o_bi X242 H at_319 (v := 40) rfl ?_
            by_cases hc245 : w2 = (40 : Int32)
            · refine o_icN X242 H at_321 (teq hc245).2 ?_
              refine o_ic X242 H at_324 (v := 1) rfl ?_
              refine o_go X242 H at_325 (pc' := 329) (by decide) (by decide) ?_
              refine o_ist X242 H at_329 (L' := #[.val (.int p1), .val (.int p2), .val (.int p3), .val (.int s0), .val (.int s1), .val (.int s2), .val (.int (2 : Int32)), .val (.int w0), .val (.int w1), .val (.int w2), .val (.int w3), .val (.int (3 : Int32)), .val (.ref x232), .val (.ref x242), .val (.int (1 : Int32)), .val (.int w2), .val (.int (1 : Int32))]) rfl ?_
              exact PT _ _ _ _ _ _ _ _ _ _ _ _ _ _ x242 t242 x232 t232 kt242 kt232 3 2 [w0, w1, w2] [s0, s1] _ rfl rfl (by decide) (by decide) (List.forall_mem_cons.mpr ⟨rw0, List.forall_mem_cons.mpr ⟨rw1, List.forall_mem_cons.mpr ⟨rw2, fun _ q => nomatch q⟩⟩⟩) (List.forall_mem_cons.mpr ⟨rs0, List.forall_mem_cons.mpr ⟨rs1, fun _ q => nomatch q⟩⟩) (Or.inl ⟨rfl, (own_U_3_2 w0 w1 w2 s0 s1).mpr ⟨hc243, hc244, hc245⟩⟩) T242 _ _ _ _ (X242.more (by decide) (by decide)) rfl N242 hS0 hZ hown (CHv.keep K242 sf0 (CHv.keep K232 sf0 CH0)) (CHr.trans (CHr.trans (CHr.refl CH0) (CHr.keep K232 sf0 CH0)) (CHr.keep K242 sf0 (CHv.keep K232 sf0 CH0))) (Nat.le_trans (Nat.le_trans (Nat.zero_le _) K232.1) K242.1) (Nat.le_trans (Nat.le_trans Z0 K232.1) K242.1) ((O.keep K232 all0).keep K242 all0) Eq242 Cq242 Vq242 Aq242 (Eq232.keep K242) (Cq232.keep K242 nin0) (Vq232.keep K242 nin0) (Aq232.keep K242 nin0)
            · refine o_icY X242 H at_321 (feq hc245).2 (pc' := 328) (by decide) (by decide) ?_
              refine o_ic X242 H at_328 (v := 0) rfl ?_
              refine o_ist X242 H at_329 (L' := #[.val (.int p1), .val (.int p2), .val (.int p3), .val (.int s0), .val (.int s1), .val (.int s2), .val (.int (2 : Int32)), .val (.int w0), .val (.int w1), .val (.int w2), .val (.int w3), .val (.int (3 : Int32)), .val (.ref x232), .val (.ref x242), .val (.int (1 : Int32)), .val (.int w2), .val (.int (0 : Int32))]) rfl ?_
              exact PT _ _ _ _ _ _ _ _ _ _ _ _ _ _ x242 t242 x232 t232 kt242 kt232 3 2 [w0, w1, w2] [s0, s1] _ rfl rfl (by decide) (by decide) (List.forall_mem_cons.mpr ⟨rw0, List.forall_mem_cons.mpr ⟨rw1, List.forall_mem_cons.mpr ⟨rw2, fun _ q => nomatch q⟩⟩⟩) (List.forall_mem_cons.mpr ⟨rs0, List.forall_mem_cons.mpr ⟨rs1, fun _ q => nomatch q⟩⟩) (Or.inr ⟨rfl, fun u => absurd (((own_U_3_2 w0 w1 w2 s0 s1).mp u).2.2) hc245⟩) T242 _ _ _ _ (X242.more (by decide) (by decide)) rfl N242 hS0 hZ hown (CHv.keep K242 sf0 (CHv.keep K232 sf0 CH0)) (CHr.trans (CHr.trans (CHr.refl CH0) (CHr.keep K232 sf0 CH0)) (CHr.keep K242 sf0 (CHv.keep K232 sf0 CH0))) (Nat.le_trans (Nat.le_trans (Nat.zero_le _) K232.1) K242.1) (Nat.le_trans (Nat.le_trans Z0 K232.1) K242.1) ((O.keep K232 all0).keep K242 all0) Eq242 Cq242 Vq242 Aq242 (Eq232.keep K242) (Cq232.keep K242 nin0) (Vq232.keep K242 nin0) (Aq232.keep K242 nin0)
          · refine o_icY X242 H at_239 (feq hc244).2 (pc' := 259) (by decide) (by decide) ?_
            refine o_ic X242 H at_259 (v := 0) rfl ?_
            refine o_ist X242 H at_260 (L' := #[.val (.int p1), .val (.int p2), .val (.int p3), .val (.int s0), .val (.int s1), .val (.int s2), .val (.int (2 : Int32)), .val (.int w0), .val (.int w1), .val (.int w2), .val (.int w3), .val (.int (3 : Int32)), .val (.ref x232), .val (.ref x242), .val (.int (0 : Int32)), .unset, .unset]) rfl ?_
            refine o_ild X242 H at_262 rfl ?_
            refine o_ifY X242 H at_264 ((if0 _ _).trans (feq (by decide : ¬ ((2 : Int32) = (0 : Int32)))).2) (pc' := 272) (by decide) (by decide) ?_
            refine o_ild X242 H at_272 rfl ?_
            refine o_ic X242 H at_274 (v := 1) rfl ?_
            refine o_icY X242 H at_275 (feq (by decide : ¬ ((2 : Int32) = (1 : Int32)))).2 (pc' := 283) (by decide) (by decide) ?_
            refine o_ild X242 H at_283 rfl ?_
            refine o_ic X242 H at_285 (v := 2) rfl ?_
            refine o_icN X242 H at_286 (teq (by decide : (2 : Int32) = (2 : Int32))).2 ?_
            refine o_ild X242 H at_289 rfl ?_
            refine o_go X242 H at_291 (pc' := 296) (by decide) (by decide) ?_
            refine o_ist X242 H at_296 (L' := #[.val (.int p1), .val (.int p2), .val (.int p3), .val (.int s0), .val (.int s1), .val (.int s2), .val (.int (2 : Int32)), .val (.int w0), .val (.int w1), .val (.int w2), .val (.int w3), .val (.int (3 : Int32)), .val (.ref x232), .val (.ref x242), .val (.int (0 : Int32)), .val (.int w2), .unset]) rfl ?_
            refine o_ild X242 H at_298 rfl ?_
            refine o_ild X242 H at_300 rfl ?_
            refine o_icN X242 H at_302 (flt (by decide : ¬ ((3 : Int32) < (2 : Int32)))).1 ?_
            refine o_ild X242 H at_305 rfl ?_
            refine o_ifY X242 H at_307 ((if0 _ _).trans (teq (by decide : (0 : Int32) = (0 : Int32))).1) (pc' := 328) (by decide) (by decide) ?_
            refine o_ic X242 H at_328 (v := 0) rfl ?_
            refine o_ist X242 H at_329 (L' := #[.val (.int p1), .val (.int p2), .val (.int p3), .val (.int s0), .val (.int s1), .val (.int s2), .val (.int (2 : Int32)), .val (.int w0), .val (.int w1), .val (.int w2), .val (.int w3), .val (.int (3 : Int32)), .val (.ref x232), .val (.ref x242), .val (.int (0 : Int32)), .val (.int w2), .val (.int (0 : Int32))]) rfl ?_
            exact PT _ _ _ _ _ _ _ _ _ _ _ _ _ _ x242 t242 x232 t232 kt242 kt232 3 2 [w0, w1, w2] [s0, s1] _ rfl rfl (by decide) (by decide) (List.forall_mem_cons.mpr ⟨rw0, List.forall_mem_cons.mpr ⟨rw1, List.forall_mem_cons.mpr ⟨rw2, fun _ q => nomatch q⟩⟩⟩) (List.forall_mem_cons.mpr ⟨rs0, List.forall_mem_cons.mpr ⟨rs1, fun _ q => nomatch q⟩⟩) (Or.inr ⟨rfl, fun u => absurd (((own_U_3_2 w0 w1 w2 s0 s1).mp u).2.1) hc244⟩) T242 _ _ _ _ (X242.more (by decide) (by decide)) rfl N242 hS0 hZ hown (CHv.keep K242 sf0 (CHv.keep K232 sf0 CH0)) (CHr.trans (CHr.trans (CHr.refl CH0) (CHr.keep K232 sf0 CH0)) (CHr.keep K242 sf0 (CHv.keep K232 sf0 CH0))) (Nat.le_trans (Nat.le_trans (Nat.zero_le _) K232.1) K242.1) (Nat.le_trans (Nat.le_trans Z0 K232.1) K242.1) ((O.keep K232 all0).keep K242 all0) Eq242 Cq242 Vq242 Aq242 (Eq232.keep K242) (Cq232.keep K242 nin0) (Vq232.keep K242 nin0) (Aq232.keep K242 nin0)
        · refine o_icY X242 H at_226 (feq hc243).2 (pc' := 259) (by decide) (by decide) ?_
          refine o_ic X242 H at_259 (v := 0) rfl ?_
          refine o_ist X242 H at_260 (L' := #[.val (.int p1), .val (.int p2), .val (.int p3), .val (.int s0), .val (.int s1), .val (.int s2), .val (.int (2 : Int32)), .val (.int w0), .val (.int w1), .val (.int w2), .val (.int w3), .val (.int (3 : Int32)), .val (.ref x232), .val (.ref x242), .val (.int (0 : Int32)), .unset, .unset]) rfl ?_
          refine o_ild X242 H at_262 rfl ?_
          refine o_ifY X242 H at_264 ((if0 _ _).trans (feq (by decide : ¬ ((2 : Int32) = (0 : Int32)))).2) (pc' := 272) (by decide) (by decide) ?_
          refine o_ild X242 H at_272 rfl ?_
          refine o_ic X242 H at_274 (v := 1) rfl ?_
          refine o_icY X242 H at_275 (feq (by decide : ¬ ((2 : Int32) = (1 : Int32)))).2 (pc' := 283) (by decide) (by decide) ?_
          refine o_ild X242 H at_283 rfl ?_
          refine o_ic X242 H at_285 (v := 2) rfl ?_
          refine o_icN X242 H at_286 (teq (by decide : (2 : Int32) = (2 : Int32))).2 ?_
          refine o_ild X242 H at_289 rfl ?_
          refine o_go X242 H at_291 (pc' := 296) (by decide) (by decide) ?_
          refine o_ist X242 H at_296 (L' := #[.val (.int p1), .val (.int p2), .val (.int p3), .val (.int s0), .val (.int s1), .val (.int s2), .val (.int (2 : Int32)), .val (.int w0), .val (.int w1), .val (.int w2), .val (.int w3), .val (.int (3 : Int32)), .val (.ref x232), .val (.ref x242), .val (.int (0 : Int32)), .val (.int w2), .unset]) rfl ?_
          refine o_ild X242 H at_298 rfl ?_
          refine o_ild X242 H at_300 rfl ?_
          refine o_icN X242 H at_302 (flt (by decide : ¬ ((3 : Int32) < (2 : Int32)))).1 ?_
          refine o_ild X242 H at_305 rfl ?_
          refine o_ifY X242 H at_307 ((if0 _ _).trans (teq (by decide : (0 : Int32) = (0 : Int32))).1) (pc' := 328) (by decide) (by decide) ?_
          refine o_ic X242 H at_328 (v := 0) rfl ?_
          refine o_ist X242 H at_329 (L' := #[.val (.int p1), .val (.int p2), .val (.int p3), .val (.int s0), .val (.int s1), .val (.int s2), .val (.int (2 : Int32)), .val (.int w0), .val (.int w1), .val (.int w2), .val (.int w3), .val (.int (3 : Int32)), .val (.ref x232), .val (.ref x242), .val (.int (0 : Int32)), .val (.int w2), .val (.int (0 : Int32))]) rfl ?_
          exact PT _ _ _ _ _ _ _ _ _ _ _ _ _ _ x242 t242 x232 t232 kt242 kt232 3 2 [w0, w1, w2] [s0, s1] _ rfl rfl (by decide) (by decide) (List.forall_mem_cons.mpr ⟨rw0, List.forall_mem_cons.mpr ⟨rw1, List.forall_mem_cons.mpr ⟨rw2, fun _ q => nomatch q⟩⟩⟩) (List.forall_mem_cons.mpr ⟨rs0, List.forall_mem_cons.mpr ⟨rs1, fun _ q => nomatch q⟩⟩) (Or.inr ⟨rfl, fun u => absurd (((own_U_3_2 w0 w1 w2 s0 s1).mp u).1) hc243⟩) T242 _ _ _ _ (X242.more (by decide) (by decide)) rfl N242 hS0 hZ hown (CHv.keep K242 sf0 (CHv.keep K232 sf0 CH0)) (CHr.trans (CHr.trans (CHr.refl CH0) (CHr.keep K232 sf0 CH0)) (CHr.keep K242 sf0 (CHv.keep K232 sf0 CH0))) (Nat.le_trans (Nat.le_trans (Nat.zero_le _) K232.1) K242.1) (Nat.le_trans (Nat.le_trans Z0 K232.1) K242.1) ((O.keep K232 all0).keep K242 all0) Eq242 Cq242 Vq242 Aq242 (Eq232.keep K242) (Cq232.keep K242 nin0) (Vq232.keep K242 nin0) (Aq232.keep K242 nin0)
      · rw [hm]
        show own_Fin p e below _ (T232.setTop (mkF m 202 #[.val (.int p1), .val (.int p2), .val (.int p3), .val (.int s0), .val (.int s1), .val (.int s2), .val (.int (2 : Int32)), .val (.int w0), .val (.int w1), .val (.int w2), .val (.int w3), .val (.int (4 : Int32)), .val (.ref x232), .unset, .unset, .unset, .unset] []))
        refine o_ild X232 H at_202 rfl ?_
        refine o_ild X232 H at_204 rfl ?_
        refine o_ild X232 H at_206 rfl ?_
        refine o_ild X232 H at_208 rfl ?_
        refine o_ild X232 H at_210 rfl ?_
        refine o_tc (argsL := [(.int w0), (.int w1), (.int w2), (.int w3), (.int (4 : Int32))]) (rest := []) X232 H hml hZ hown (ow hw 0 rfl) (ow hw 1 rfl) (ow hw 2 rfl) (ow hw 3 rfl) (backOf (W := 0) (rmMk4 l Z a0 hw [] w0 w1 w2 w3 z T232.heap n0 (by exact (Nat.le_trans Z0 K232.1)) rw0 rw1 rw2 rw3 hz (O.keep K232 all0) SC) hZ (ow hw 3 rfl) (ow hw 2 rfl) (by decide) (by decide)) (by decide) rfl pd_24 at_212 rfl rfl rfl rfl rfl (by decide) (by decide) fun _ T246 Lc246 X246 hQ246 => ?_
        obtain ⟨x246, t246, kt246, rfl, N246q, K246, Eq246, Cq246, Vq246, Aq246⟩ := hQ246
        have N246 := Fr.app N232 N246q
        show own_Fin p e below _ (T246.setTop (mkF m 215 #[.val (.int p1), .val (.int p2), .val (.int p3), .val (.int s0), .val (.int s1), .val (.int s2), .val (.int (2 : Int32)), .val (.int w0), .val (.int w1), .val (.int w2), .val (.int w3), .val (.int (4 : Int32)), .val (.ref x232), .unset, .unset, .unset, .unset] [(.ref x246)]))
        refine o_ast X246 H at_215 (L' := #[.val (.int p1), .val (.int p2), .val (.int p3), .val (.int s0), .val (.int s1), .val (.int s2), .val (.int (2 : Int32)), .val (.int w0), .val (.int w1), .val (.int w2), .val (.int w3), .val (.int (4 : Int32)), .val (.ref x232), .val (.ref x246), .unset, .unset, .unset]) rfl rfl ?_
        refine o_ild X246 H at_217 rfl ?_
        refine o_ic X246 H at_219 (v := 1) rfl ?_
        refine o_icN X246 H at_220 (flt (by decide : ¬ ((2 : Int32) < (1 : Int32)))).1 ?_
        refine o_ild X246 H at_223 rfl ?_
        refine o_ildN X246 H at_225 rfl ?_
        by_cases hc247 : w0 = s0
        · refine o_icN X246 H at_226 (teq hc247).2 ?_
          refine o_ild X246 H at_229 rfl ?_
          refine o_ic X246 H at_231 (v := 2) rfl ?_
          refine o_icN X246 H at_232 (flt (by decide : ¬ ((2 : Int32) < (2 : Int32)))).1 ?_
          refine o_ild X246 H at_235 rfl ?_
          refine o_ild X246 H at_237 rfl ?_
          by_cases hc248 : w1 = s1
          · refine o_icN X246 H at_239 (teq hc248).2 ?_
            refine o_ild X246 H at_242 rfl ?_
            refine o_ic X246 H at_244 (v := 3) rfl ?_
            refine o_icY X246 H at_245 (tlt (by decide : (2 : Int32) < (3 : Int32))).1 (pc' := 255) (by decide) (by decide) ?_
            refine o_ic X246 H at_255 (v := 1) rfl ?_
            refine o_go X246 H at_256 (pc' := 260) (by decide) (by decide) ?_
            refine o_ist X246 H at_260 (L' := #[.val (.int p1), .val (.int p2), .val (.int p3), .val (.int s0), .val (.int s1), .val (.int s2), .val (.int (2 : Int32)), .val (.int w0), .val (.int w1), .val (.int w2), .val (.int w3), .val (.int (4 : Int32)), .val (.ref x232), .val (.ref x246), .val (.int (1 : Int32)), .unset, .unset]) rfl ?_
            refine o_ild X246 H at_262 rfl ?_
            refine o_ifY X246 H at_264 ((if0 _ _).trans (feq (by decide : ¬ ((2 : Int32) = (0 : Int32)))).2) (pc' := 272) (by decide) (by decide) ?_
            refine o_ild X246 H at_272 rfl ?_
            refine o_ic X246 H at_274 (v := 1) rfl ?_
            refine o_icY X246 H at_275 (feq (by decide : ¬ ((2 : Int32) = (1 : Int32)))).2 (pc' := 283) (by decide) (by decide) ?_
            refine o_ild X246 H at_283 rfl ?_
            refine o_ic X246 H at_285 (v := 2) rfl ?_
            refine o_icN X246 H at_286 (teq (by decide : (2 : Int32) = (2 : Int32))).2 ?_
            refine o_ild X246 H at_289 rfl ?_
            refine o_go X246 H at_291 (pc' := 296) (by decide) (by decide) ?_
            refine o_ist X246 H at_296 (L' := #[.val (.int p1), .val (.int p2), .val (.int p3), .val (.int s0), .val (.int s1), .val (.int s2), .val (.int (2 : Int32)), .val (.int w0), .val (.int w1), .val (.int w2), .val (.int w3), .val (.int (4 : Int32)), .val (.ref x232), .val (.ref x246), .val (.int (1 : Int32)), .val (.int w2), .unset]) rfl ?_
            refine o_ild X246 H at_298 rfl ?_
            refine o_ild X246 H at_300 rfl ?_
            refine o_icN X246 H at_302 (flt (by decide : ¬ ((4 : Int32) < (2 : Int32)))).1 ?_
            refine o_ild X246 H at_305 rfl ?_
            refine o_ifN X246 H at_307 ((if0 _ _).trans (feq (by decide : ¬ ((1 : Int32) = (0 : Int32)))).1) ?_
            refine o_ild X246 H at_310 rfl ?_
            refine o_ild X246 H at_312 rfl ?_
            refine o_icN X246 H at_314 (feq (by decide : ¬ ((4 : Int32) = (2 : Int32)))).1 ?_
            refine o_ild X246 H at_317 rfl ?_
            refine o_bi X246 H at_319 (v := 40) rfl ?_
            by_cases hc249 : w2 = (40 : Int32)
            · refine o_icN X246 H at_321 (teq hc249).2 ?_
              refine o_ic X246 H at_324 (v := 1) rfl ?_
              refine o_go X246 H at_325 (pc' := 329) (by decide) (by decide) ?_
              refine o_ist X246 H at_329 (L' := #[.val (.int p1), .val (.int p2), .val (.int p3), .val (.int s0), .val (.int s1), .val (.int s2), .val (.int (2 : Int32)), .val (.int w0), .val (.int w1), .val (.int w2), .val (.int w3), .val (.int (4 : Int32)), .val (.ref x232), .val (.ref x246), .val (.int (1 : Int32)), .val (.int w2), .val (.int (1 : Int32))]) rfl ?_
              exact PT _ _ _ _ _ _ _ _ _ _ _ _ _ _ x246 t246 x232 t232 kt246 kt232 4 2 [w0, w1, w2, w3] [s0, s1] _ rfl rfl (by decide) (by decide) (List.forall_mem_cons.mpr ⟨rw0, List.forall_mem_cons.mpr ⟨rw1, List.forall_mem_cons.mpr ⟨rw2, List.forall_mem_cons.mpr ⟨rw3, fun _ q => nomatch q⟩⟩⟩⟩) (List.forall_mem_cons.mpr ⟨rs0, List.forall_mem_cons.mpr ⟨rs1, fun _ q => nomatch q⟩⟩) (Or.inl ⟨rfl, (own_U_4_2 w0 w1 w2 w3 s0 s1).mpr ⟨hc247, hc248, hc249⟩⟩) T246 _ _ _ _ (X246.more (by decide) (by decide)) rfl N246 hS0 hZ hown (CHv.keep K246 sf0 (CHv.keep K232 sf0 CH0)) (CHr.trans (CHr.trans (CHr.refl CH0) (CHr.keep K232 sf0 CH0)) (CHr.keep K246 sf0 (CHv.keep K232 sf0 CH0))) (Nat.le_trans (Nat.le_trans (Nat.zero_le _) K232.1) K246.1) (Nat.le_trans (Nat.le_trans Z0 K232.1) K246.1) ((O.keep K232 all0).keep K246 all0) Eq246 Cq246 Vq246 Aq246 (Eq232.keep K246) (Cq232.keep K246 nin0) (Vq232.keep K246 nin0) (Aq232.keep K246 nin0)
            · refine o_icY X246 H at_321 (feq hc249).2 (pc' := 328) (by decide) (by decide) ?_
              refine o_ic X246 H at_328 (v := 0) rfl ?_
              refine o_ist X246 H at_329 (L' := #[.val (.int p1), .val (.int p2), .val (.int p3), .val (.int s0), .val (.int s1), .val (.int s2), .val (.int (2 : Int32)), .val (.int w0), .val (.int w1), .val (.int w2), .val (.int w3), .val (.int (4 : Int32)), .val (.ref x232), .val (.ref x246), .val (.int (1 : Int32)), .val (.int w2), .val (.int (0 : Int32))]) rfl ?_
              exact PT _ _ _ _ _ _ _ _ _ _ _ _ _ _ x246 t246 x232 t232 kt246 kt232 4 2 [w0, w1, w2, w3] [s0, s1] _ rfl rfl (by decide) (by decide) (List.forall_mem_cons.mpr ⟨rw0, List.forall_mem_cons.mpr ⟨rw1, List.forall_mem_cons.mpr ⟨rw2, List.forall_mem_cons.mpr ⟨rw3, fun _ q => nomatch q⟩⟩⟩⟩) (List.forall_mem_cons.mpr ⟨rs0, List.forall_mem_cons.mpr ⟨rs1, fun _ q => nomatch q⟩⟩) (Or.inr ⟨rfl, fun u => absurd (((own_U_4_2 w0 w1 w2 w3 s0 s1).mp u).2.2) hc249⟩) T246 _ _ _ _ (X246.more (by decide) (by decide)) rfl N246 hS0 hZ hown (CHv.keep K246 sf0 (CHv.keep K232 sf0 CH0)) (CHr.trans (CHr.trans (CHr.refl CH0) (CHr.keep K232 sf0 CH0)) (CHr.keep K246 sf0 (CHv.keep K232 sf0 CH0))) (Nat.le_trans (Nat.le_trans (Nat.zero_le _) K232.1) K246.1) (Nat.le_trans (Nat.le_trans Z0 K232.1) K246.1) ((O.keep K232 all0).keep K246 all0) Eq246 Cq246 Vq246 Aq246 (Eq232.keep K246) (Cq232.keep K246 nin0) (Vq232.keep K246 nin0) (Aq232.keep K246 nin0)
          · refine o_icY X246 H at_239 (feq hc248).2 (pc' := 259) (by decide) (by decide) ?_
            refine o_ic X246 H at_259 (v := 0) rfl ?_
            refine o_ist X246 H at_260 (L' := #[.val (.int p1), .val (.int p2), .val (.int p3), .val (.int s0), .val (.int s1), .val (.int s2), .val (.int (2 : Int32)), .val (.int w0), .val (.int w1), .val (.int w2), .val (.int w3), .val (.int (4 : Int32)), .val (.ref x232), .val (.ref x246), .val (.int (0 : Int32)), .unset, .unset]) rfl ?_
            refine o_ild X246 H at_262 rfl ?_
            refine o_ifY X246 H at_264 ((if0 _ _).trans (feq (by decide : ¬ ((2 : Int32) = (0 : Int32)))).2) (pc' := 272) (by decide) (by decide) ?_
            refine o_ild X246 H at_272 rfl ?_
            refine o_ic X246 H at_274 (v := 1) rfl ?_
            refine o_icY X246 H at_275 (feq (by decide : ¬ ((2 : Int32) = (1 : Int32)))).2 (pc' := 283) (by decide) (by decide) ?_
            refine o_ild X246 H at_283 rfl ?_
            refine o_ic X246 H at_285 (v := 2) rfl ?_
            refine o_icN X246 H at_286 (teq (by decide : (2 : Int32) = (2 : Int32))).2 ?_
            refine o_ild X246 H at_289 rfl ?_
            refine o_go X246 H at_291 (pc' := 296) (by decide) (by decide) ?_
            refine o_ist X246 H at_296 (L' := #[.val (.int p1), .val (.int p2), .val (.int p3), .val (.int s0), .val (.int s1), .val (.int s2), .val (.int (2 : Int32)), .val (.int w0), .val (.int w1), .val (.int w2), .val (.int w3), .val (.int (4 : Int32)), .val (.ref x232), .val (.ref x246), .val (.int (0 : Int32)), .val (.int w2), .unset]) rfl ?_
            refine o_ild X246 H at_298 rfl ?_
            refine o_ild X246 H at_300 rfl ?_
            refine o_icN X246 H at_302 (flt (by decide : ¬ ((4 : Int32) < (2 : Int32)))).1 ?_
            refine o_ild X246 H at_305 rfl ?_
            refine o_ifY X246 H at_307 ((if0 _ _).trans (teq (by decide : (0 : Int32) = (0 : Int32))).1) (pc' := 328) (by decide) (by decide) ?_
            refine o_ic X246 H at_328 (v := 0) rfl ?_
            refine o_ist X246 H at_329 (L' := #[.val (.int p1), .val (.int p2), .val (.int p3), .val (.int s0), .val (.int s1), .val (.int s2), .val (.int (2 : Int32)), .val (.int w0), .val (.int w1), .val (.int w2), .val (.int w3), .val (.int (4 : Int32)), .val (.ref x232), .val (.ref x246), .val (.int (0 : Int32)), .val (.int w2), .val (.int (0 : Int32))]) rfl ?_
            exact PT _ _ _ _ _ _ _ _ _ _ _ _ _ _ x246 t246 x232 t232 kt246 kt232 4 2 [w0, w1, w2, w3] [s0, s1] _ rfl rfl (by decide) (by decide) (List.forall_mem_cons.mpr ⟨rw0, List.forall_mem_cons.mpr ⟨rw1, List.forall_mem_cons.mpr ⟨rw2, List.forall_mem_cons.mpr ⟨rw3, fun _ q => nomatch q⟩⟩⟩⟩) (List.forall_mem_cons.mpr ⟨rs0, List.forall_mem_cons.mpr ⟨rs1, fun _ q => nomatch q⟩⟩) (Or.inr ⟨rfl, fun u => absurd (((own_U_4_2 w0 w1 w2 w3 s0 s1).mp u).2.1) hc248⟩) T246 _ _ _ _ (X246.more (by decide) (by decide)) rfl N246 hS0 hZ hown (CHv.keep K246 sf0 (CHv.keep K232 sf0 CH0)) (CHr.trans (CHr.trans (CHr.refl CH0) (CHr.keep K232 sf0 CH0)) (CHr.keep K246 sf0 (CHv.keep K232 sf0 CH0))) (Nat.le_trans (Nat.le_trans (Nat.zero_le _) K232.1) K246.1) (Nat.le_trans (Nat.le_trans Z0 K232.1) K246.1) ((O.keep K232 all0).keep K246 all0) Eq246 Cq246 Vq246 Aq246 (Eq232.keep K246) (Cq232.keep K246 nin0) (Vq232.keep K246 nin0) (Aq232.keep K246 nin0)
        · refine o_icY X246 H at_226 (feq hc247).2 (pc' := 259) (by decide) (by decide) ?_
          refine o_ic X246 H at_259 (v := 0) rfl ?_
          refine o_ist X246 H at_260 (L' := #[.val (.int p1), .val (.int p2), .val (.int p3), .val (.int s0), .val (.int s1), .val (.int s2), .val (.int (2 : Int32)), .val (.int w0), .val (.int w1), .val (.int w2), .val (.int w3), .val (.int (4 : Int32)), .val (.ref x232), .val (.ref x246), .val (.int (0 : Int32)), .unset, .unset]) rfl ?_
          refine o_ild X246 H at_262 rfl ?_
          refine o_ifY X246 H at_264 ((if0 _ _).trans (feq (by decide : ¬ ((2 : Int32) = (0 : Int32)))).2) (pc' := 272) (by decide) (by decide) ?_
          refine o_ild X246 H at_272 rfl ?_
          refine o_ic X246 H at_274 (v := 1) rfl ?_
          refine o_icY X246 H at_275 (feq (by decide : ¬ ((2 : Int32) = (1 : Int32)))).2 (pc' := 283) (by decide) (by decide) ?_
          refine o_ild X246 H at_283 rfl ?_
          refine o_ic X246 H at_285 (v := 2) rfl ?_
          refine o_icN X246 H at_286 (teq (by decide : (2 : Int32) = (2 : Int32))).2 ?_
          refine o_ild X246 H at_289 rfl ?_
          refine o_go X246 H at_291 (pc' := 296) (by decide) (by decide) ?_
          refine o_ist X246 H at_296 (L' := #[.val (.int p1), .val (.int p2), .val (.int p3), .val (.int s0), .val (.int s1), .val (.int s2), .val (.int (2 : Int32)), .val (.int w0), .val (.int w1), .val (.int w2), .val (.int w3), .val (.int (4 : Int32)), .val (.ref x232), .val (.ref x246), .val (.int (0 : Int32)), .val (.int w2), .unset]) rfl ?_
          refine o_ild X246 H at_298 rfl ?_
          refine o_ild X246 H at_300 rfl ?_
          refine o_icN X246 H at_302 (flt (by decide : ¬ ((4 : Int32) < (2 : Int32)))).1 ?_
          refine o_ild X246 H at_305 rfl ?_
          refine o_ifY X246 H at_307 ((if0 _ _).trans (teq (by decide : (0 : Int32) = (0 : Int32))).1) (pc' := 328) (by decide) (by decide) ?_
          refine o_ic X246 H at_328 (v := 0) rfl ?_
          refine o_ist X246 H at_329 (L' := #[.val (.int p1), .val (.int p2), .val (.int p3), .val (.int s0), .val (.int s1), .val (.int s2), .val (.int (2 : Int32)), .val (.int w0), .val (.int w1), .val (.int w2), .val (.int w3), .val (.int (4 : Int32)), .val (.ref x232), .val (.ref x246), .val (.int (0 : Int32)), .val (.int w2), .val (.int (0 : Int32))]) rfl ?_
          exact PT _ _ _ _ _ _ _ _ _ _ _ _ _ _ x246 t246 x232 t232 kt246 kt232 4 2 [w0, w1, w2, w3] [s0, s1] _ rfl rfl (by decide) (by decide) (List.forall_mem_cons.mpr ⟨rw0, List.forall_mem_cons.mpr ⟨rw1, List.forall_mem_cons.mpr ⟨rw2, List.forall_mem_cons.mpr ⟨rw3, fun _ q => nomatch q⟩⟩⟩⟩) (List.forall_mem_cons.mpr ⟨rs0, List.forall_mem_cons.mpr ⟨rs1, fun _ q => nomatch q⟩⟩) (Or.inr ⟨rfl, fun u => absurd (((own_U_4_2 w0 w1 w2 w3 s0 s1).mp u).1) hc247⟩) T246 _ _ _ _ (X246.more (by decide) (by decide)) rfl N246 hS0 hZ hown (CHv.keep K246 sf0 (CHv.keep K232 sf0 CH0)) (CHr.trans (CHr.trans (CHr.refl CH0) (CHr.keep K232 sf0 CH0)) (CHr.keep K246 sf0 (CHv.keep K232 sf0 CH0))) (Nat.le_trans (Nat.le_trans (Nat.zero_le _) K232.1) K246.1) (Nat.le_trans (Nat.le_trans Z0 K232.1) K246.1) ((O.keep K232 all0).keep K246 all0) Eq246 Cq246 Vq246 Aq246 (Eq232.keep K246) (Cq232.keep K246 nin0) (Vq232.keep K246 nin0) (Aq232.keep K246 nin0)
    · show own_Fin p e below _ (s₁.setTop (mkF m 86 #[.val (.int p1), .val (.int p2), .val (.int p3), .val (.int s0), .val (.int s1), .val (.int s2), .val (.int (2 : Int32)), .val (.int k0), .val (.int k1), .val (.int k2), .val (.int k3), .val (.int cl), .unset, .unset, .unset, .unset, .unset] []))
      refine o_ildN X0 H at_86 rfl ?_
      refine o_ic X0 H at_87 (v := 3) rfl ?_
      refine own_on (fun tq => XS.iushr X0.here hx rfl (hb hby at_88) rfl) ?_
      show own_Fin p e below _ (s₁.setTop (mkF m 89 #[.val (.int p1), .val (.int p2), .val (.int p3), .val (.int s0), .val (.int s1), .val (.int s2), .val (.int (2 : Int32)), .val (.int k0), .val (.int k1), .val (.int k2), .val (.int k3), .val (.int cl), .unset, .unset, .unset, .unset, .unset] [(.int ((p3.toUInt32 >>> ((3 : Int32) &&& 31).toUInt32).toInt32))]))
      refine o_ic X0 H at_89 (v := 1) rfl ?_
      refine o_iand X0 H at_90 ?_
      by_cases hc250 : (((p3.toUInt32 >>> ((3 : Int32) &&& 31).toUInt32).toInt32) &&& (1 : Int32)) = (0 : Int32)
      · refine o_ifY X0 H at_91 ((if0 _ _).trans (teq hc250).1) (pc' := 102) (by decide) (by decide) ?_
        refine o_ildN X0 H at_102 rfl ?_
        refine o_ic X0 H at_103 (v := 4) rfl ?_
        refine own_on (fun tq => XS.iushr X0.here hx rfl (hb hby at_104) rfl) ?_
        show own_Fin p e below _ (s₁.setTop (mkF m 105 #[.val (.int p1), .val (.int p2), .val (.int p3), .val (.int s0), .val (.int s1), .val (.int s2), .val (.int (2 : Int32)), .val (.int k0), .val (.int k1), .val (.int k2), .val (.int k3), .val (.int cl), .unset, .unset, .unset, .unset, .unset] [(.int ((p3.toUInt32 >>> ((4 : Int32) &&& 31).toUInt32).toInt32))]))
        refine o_ic X0 H at_105 (v := 1) rfl ?_
        refine o_iand X0 H at_106 ?_
        by_cases hc251 : (((p3.toUInt32 >>> ((4 : Int32) &&& 31).toUInt32).toInt32) &&& (1 : Int32)) = (0 : Int32)
        · refine o_ifY X0 H at_107 ((if0 _ _).trans (teq hc251).1) (pc' := 120) (by decide) (by decide) ?_
          refine o_ildN X0 H at_120 rfl ?_
          refine o_ic X0 H at_121 (v := 5) rfl ?_
          refine own_on (fun tq => XS.iushr X0.here hx rfl (hb hby at_122) rfl) ?_
          show own_Fin p e below _ (s₁.setTop (mkF m 123 #[.val (.int p1), .val (.int p2), .val (.int p3), .val (.int s0), .val (.int s1), .val (.int s2), .val (.int (2 : Int32)), .val (.int k0), .val (.int k1), .val (.int k2), .val (.int k3), .val (.int cl), .unset, .unset, .unset, .unset, .unset] [(.int ((p3.toUInt32 >>> ((5 : Int32) &&& 31).toUInt32).toInt32))]))
          refine o_ic X0 H at_123 (v := 1) rfl ?_
          refine o_iand X0 H at_124 ?_
          by_cases hc252 : (((p3.toUInt32 >>> ((5 : Int32) &&& 31).toUInt32).toInt32) &&& (1 : Int32)) = (0 : Int32)
          · refine o_ifY X0 H at_125 ((if0 _ _).trans (teq hc252).1) (pc' := 138) (by decide) (by decide) ?_
            refine o_ildN X0 H at_138 rfl ?_
            refine o_si X0 H at_139 (v := 128) rfl ?_
            refine o_iand X0 H at_142 ?_
            by_cases hc253 : (p3 &&& (128 : Int32)) = (0 : Int32)
            · refine o_ifY X0 H at_143 ((if0 _ _).trans (teq hc253).1) (pc' := 188) (by decide) (by decide) ?_
              exact HM _ _ _ _ ⟨rk0, rk1, rk2, rk3⟩
            · refine o_ifN X0 H at_143 ((if0 _ _).trans (feq hc253).1) ?_
              refine o_ild X0 H at_146 rfl ?_
              refine o_ifY X0 H at_148 ((if0 _ _).trans (feq (by decide : ¬ ((2 : Int32) = (0 : Int32)))).2) (pc' := 158) (by decide) (by decide) ?_
              refine o_ild X0 H at_158 rfl ?_
              refine o_ic X0 H at_160 (v := 1) rfl ?_
              refine o_icY X0 H at_161 (feq (by decide : ¬ ((2 : Int32) = (1 : Int32)))).2 (pc' := 171) (by decide) (by decide) ?_
              refine o_ild X0 H at_171 rfl ?_
              refine o_ic X0 H at_173 (v := 2) rfl ?_
              refine o_icN X0 H at_174 (teq (by decide : (2 : Int32) = (2 : Int32))).2 ?_
              refine o_bi X0 H at_177 (v := 40) rfl ?_
              refine o_ist X0 H at_179 (L' := #[.val (.int p1), .val (.int p2), .val (.int p3), .val (.int s0), .val (.int s1), .val (.int s2), .val (.int (2 : Int32)), .val (.int k0), .val (.int k1), .val (.int (40 : Int32)), .val (.int k3), .val (.int cl), .unset, .unset, .unset, .unset, .unset]) rfl ?_
              refine o_go X0 H at_181 (pc' := 188) (by decide) (by decide) ?_
              exact HM _ _ _ _ ⟨rk0, rk1, (by decide), rk3⟩
          · refine o_ifN X0 H at_125 ((if0 _ _).trans (feq hc252).1) ?_
            refine o_ild X0 H at_128 rfl ?_
            refine o_ic X0 H at_130 (v := 2) rfl ?_
            refine o_icY X0 H at_131 (flt (by decide : ¬ ((2 : Int32) < (2 : Int32)))).2.2.2 (pc' := 138) (by decide) (by decide) ?_
            refine o_ildN X0 H at_138 rfl ?_
            refine o_si X0 H at_139 (v := 128) rfl ?_
            refine o_iand X0 H at_142 ?_
            by_cases hc254 : (p3 &&& (128 : Int32)) = (0 : Int32)
            · refine o_ifY X0 H at_143 ((if0 _ _).trans (teq hc254).1) (pc' := 188) (by decide) (by decide) ?_
              exact HM _ _ _ _ ⟨rk0, rk1, rk2, rk3⟩
            · refine o_ifN X0 H at_143 ((if0 _ _).trans (feq hc254).1) ?_
              refine o_ild X0 H at_146 rfl ?_
              refine o_ifY X0 H at_148 ((if0 _ _).trans (feq (by decide : ¬ ((2 : Int32) = (0 : Int32)))).2) (pc' := 158) (by decide) (by decide) ?_
              refine o_ild X0 H at_158 rfl ?_
              refine o_ic X0 H at_160 (v := 1) rfl ?_
              refine o_icY X0 H at_161 (feq (by decide : ¬ ((2 : Int32) = (1 : Int32)))).2 (pc' := 171) (by decide) (by decide) ?_
              refine o_ild X0 H at_171 rfl ?_
              refine o_ic X0 H at_173 (v := 2) rfl ?_
              refine o_icN X0 H at_174 (teq (by decide : (2 : Int32) = (2 : Int32))).2 ?_
              refine o_bi X0 H at_177 (v := 40) rfl ?_
              refine o_ist X0 H at_179 (L' := #[.val (.int p1), .val (.int p2), .val (.int p3), .val (.int s0), .val (.int s1), .val (.int s2), .val (.int (2 : Int32)), .val (.int k0), .val (.int k1), .val (.int (40 : Int32)), .val (.int k3), .val (.int cl), .unset, .unset, .unset, .unset, .unset]) rfl ?_
              refine o_go X0 H at_181 (pc' := 188) (by decide) (by decide) ?_
              exact HM _ _ _ _ ⟨rk0, rk1, (by decide), rk3⟩
        · refine o_ifN X0 H at_107 ((if0 _ _).trans (feq hc251).1) ?_
          refine o_ild X0 H at_110 rfl ?_
          refine o_ic X0 H at_112 (v := 1) rfl ?_
          refine o_icN X0 H at_113 (tlt (by decide : (1 : Int32) < (2 : Int32))).2.2.2 ?_
          refine o_ild X0 H at_116 rfl ?_
          refine o_ist X0 H at_118 (L' := #[.val (.int p1), .val (.int p2), .val (.int p3), .val (.int s0), .val (.int s1), .val (.int s2), .val (.int (2 : Int32)), .val (.int k0), .val (.int s1), .val (.int k2), .val (.int k3), .val (.int cl), .unset, .unset, .unset, .unset, .unset]) rfl ?_
          refine o_ildN X0 H at_120 rfl ?_
          refine o_ic X0 H at_121 (v := 5) rfl ?_
          refine own_on (fun tq => XS.iushr X0.here hx rfl (hb hby at_122) rfl) ?_
          show own_Fin p e below _ (s₁.setTop (mkF m 123 #[.val (.int p1), .val (.int p2), .val (.int p3), .val (.int s0), .val (.int s1), .val (.int s2), .val (.int (2 : Int32)), .val (.int k0), .val (.int s1), .val (.int k2), .val (.int k3), .val (.int cl), .unset, .unset, .unset, .unset, .unset] [(.int ((p3.toUInt32 >>> ((5 : Int32) &&& 31).toUInt32).toInt32))]))
          refine o_ic X0 H at_123 (v := 1) rfl ?_
          refine o_iand X0 H at_124 ?_
          by_cases hc255 : (((p3.toUInt32 >>> ((5 : Int32) &&& 31).toUInt32).toInt32) &&& (1 : Int32)) = (0 : Int32)
          · refine o_ifY X0 H at_125 ((if0 _ _).trans (teq hc255).1) (pc' := 138) (by decide) (by decide) ?_
            refine o_ildN X0 H at_138 rfl ?_
            refine o_si X0 H at_139 (v := 128) rfl ?_
            refine o_iand X0 H at_142 ?_
            by_cases hc256 : (p3 &&& (128 : Int32)) = (0 : Int32)
            · refine o_ifY X0 H at_143 ((if0 _ _).trans (teq hc256).1) (pc' := 188) (by decide) (by decide) ?_
              exact HM _ _ _ _ ⟨rk0, rs1, rk2, rk3⟩
            · refine o_ifN X0 H at_143 ((if0 _ _).trans (feq hc256).1) ?_
              refine o_ild X0 H at_146 rfl ?_
              refine o_ifY X0 H at_148 ((if0 _ _).trans (feq (by decide : ¬ ((2 : Int32) = (0 : Int32)))).2) (pc' := 158) (by decide) (by decide) ?_
              refine o_ild X0 H at_158 rfl ?_
              refine o_ic X0 H at_160 (v := 1) rfl ?_
              refine o_icY X0 H at_161 (feq (by decide : ¬ ((2 : Int32) = (1 : Int32)))).2 (pc' := 171) (by decide) (by decide) ?_
              refine o_ild X0 H at_171 rfl ?_
              refine o_ic X0 H at_173 (v := 2) rfl ?_
              refine o_icN X0 H at_174 (teq (by decide : (2 : Int32) = (2 : Int32))).2 ?_
              refine o_bi X0 H at_177 (v := 40) rfl ?_
              refine o_ist X0 H at_179 (L' := #[.val (.int p1), .val (.int p2), .val (.int p3), .val (.int s0), .val (.int s1), .val (.int s2), .val (.int (2 : Int32)), .val (.int k0), .val (.int s1), .val (.int (40 : Int32)), .val (.int k3), .val (.int cl), .unset, .unset, .unset, .unset, .unset]) rfl ?_
              refine o_go X0 H at_181 (pc' := 188) (by decide) (by decide) ?_
              exact HM _ _ _ _ ⟨rk0, rs1, (by decide), rk3⟩
          · refine o_ifN X0 H at_125 ((if0 _ _).trans (feq hc255).1) ?_
            refine o_ild X0 H at_128 rfl ?_
            refine o_ic X0 H at_130 (v := 2) rfl ?_
            refine o_icY X0 H at_131 (flt (by decide : ¬ ((2 : Int32) < (2 : Int32)))).2.2.2 (pc' := 138) (by decide) (by decide) ?_
            refine o_ildN X0 H at_138 rfl ?_
            refine o_si X0 H at_139 (v := 128) rfl ?_
            refine o_iand X0 H at_142 ?_
            by_cases hc257 : (p3 &&& (128 : Int32)) = (0 : Int32)
            · refine o_ifY X0 H at_143 ((if0 _ _).trans (teq hc257).1) (pc' := 188) (by decide) (by decide) ?_
              exact HM _ _ _ _ ⟨rk0, rs1, rk2, rk3⟩
            · refine o_ifN X0 H at_143 ((if0 _ _).trans (feq hc257).1) ?_
              refine o_ild X0 H at_146 rfl ?_
              refine o_ifY X0 H at_148 ((if0 _ _).trans (feq (by decide : ¬ ((2 : Int32) = (0 : Int32)))).2) (pc' := 158) (by decide) (by decide) ?_
              refine o_ild X0 H at_158 rfl ?_
              refine o_ic X0 H at_160 (v := 1) rfl ?_
              refine o_icY X0 H at_161 (feq (by decide : ¬ ((2 : Int32) = (1 : Int32)))).2 (pc' := 171) (by decide) (by decide) ?_
              refine o_ild X0 H at_171 rfl ?_
              refine o_ic X0 H at_173 (v := 2) rfl ?_
              refine o_icN X0 H at_174 (teq (by decide : (2 : Int32) = (2 : Int32))).2 ?_
              refine o_bi X0 H at_177 (v := 40) rfl ?_
              refine o_ist X0 H at_179 (L' := #[.val (.int p1), .val (.int p2), .val (.int p3), .val (.int s0), .val (.int s1), .val (.int s2), .val (.int (2 : Int32)), .val (.int k0), .val (.int s1), .val (.int (40 : Int32)), .val (.int k3), .val (.int cl), .unset, .unset, .unset, .unset, .unset]) rfl ?_
              refine o_go X0 H at_181 (pc' := 188) (by decide) (by decide) ?_
              exact HM _ _ _ _ ⟨rk0, rs1, (by decide), rk3⟩
      · refine o_ifN X0 H at_91 ((if0 _ _).trans (feq hc250).1) ?_
        refine o_ild X0 H at_94 rfl ?_
        refine o_ifN X0 H at_96 ((if0 _ _).trans (tlt (by decide : (0 : Int32) < (2 : Int32))).2.2.2) ?_
        refine o_ildN X0 H at_99 rfl ?_
        refine o_ist X0 H at_100 (L' := #[.val (.int p1), .val (.int p2), .val (.int p3), .val (.int s0), .val (.int s1), .val (.int s2), .val (.int (2 : Int32)), .val (.int s0), .val (.int k1), .val (.int k2), .val (.int k3), .val (.int cl), .unset, .unset, .unset, .unset, .unset]) rfl ?_
        refine o_ildN X0 H at_102 rfl ?_
        refine o_ic X0 H at_103 (v := 4) rfl ?_
        refine own_on (fun tq => XS.iushr X0.here hx rfl (hb hby at_104) rfl) ?_
        show own_Fin p e below _ (s₁.setTop (mkF m 105 #[.val (.int p1), .val (.int p2), .val (.int p3), .val (.int s0), .val (.int s1), .val (.int s2), .val (.int (2 : Int32)), .val (.int s0), .val (.int k1), .val (.int k2), .val (.int k3), .val (.int cl), .unset, .unset, .unset, .unset, .unset] [(.int ((p3.toUInt32 >>> ((4 : Int32) &&& 31).toUInt32).toInt32))]))
        refine o_ic X0 H at_105 (v := 1) rfl ?_
        refine o_iand X0 H at_106 ?_
        by_cases hc258 : (((p3.toUInt32 >>> ((4 : Int32) &&& 31).toUInt32).toInt32) &&& (1 : Int32)) = (0 : Int32)
        · refine o_ifY X0 H at_107 ((if0 _ _).trans (teq hc258).1) (pc' := 120) (by decide) (by decide) ?_
          refine o_ildN X0 H at_120 rfl ?_
          refine o_ic X0 H at_121 (v := 5) rfl ?_
          refine own_on (fun tq => XS.iushr X0.here hx rfl (hb hby at_122) rfl) ?_
          show own_Fin p e below _ (s₁.setTop (mkF m 123 #[.val (.int p1), .val (.int p2), .val (.int p3), .val (.int s0), .val (.int s1), .val (.int s2), .val (.int (2 : Int32)), .val (.int s0), .val (.int k1), .val (.int k2), .val (.int k3), .val (.int cl), .unset, .unset, .unset, .unset, .unset] [(.int ((p3.toUInt32 >>> ((5 : Int32) &&& 31).toUInt32).toInt32))]))
          refine o_ic X0 H at_123 (v := 1) rfl ?_
          refine o_iand X0 H at_124 ?_
          by_cases hc259 : (((p3.toUInt32 >>> ((5 : Int32) &&& 31).toUInt32).toInt32) &&& (1 : Int32)) = (0 : Int32)
          · refine o_ifY X0 H at_125 ((if0 _ _).trans (teq hc259).1) (pc' := 138) (by decide) (by decide) ?_
            refine o_ildN X0 H at_138 rfl ?_
            refine o_si X0 H at_139 (v := 128) rfl ?_
            refine o_iand X0 H at_142 ?_
            by_cases hc260 : (p3 &&& (128 : Int32)) = (0 : Int32)
            · refine o_ifY X0 H at_143 ((if0 _ _).trans (teq hc260).1) (pc' := 188) (by decide) (by decide) ?_
              exact HM _ _ _ _ ⟨rs0, rk1, rk2, rk3⟩
            · refine o_ifN X0 H at_143 ((if0 _ _).trans (feq hc260).1) ?_
              refine o_ild X0 H at_146 rfl ?_
              refine o_ifY X0 H at_148 ((if0 _ _).trans (feq (by decide : ¬ ((2 : Int32) = (0 : Int32)))).2) (pc' := 158) (by decide) (by decide) ?_
              refine o_ild X0 H at_158 rfl ?_
              refine o_ic X0 H at_160 (v := 1) rfl ?_
              refine o_icY X0 H at_161 (feq (by decide : ¬ ((2 : Int32) = (1 : Int32)))).2 (pc' := 171) (by decide) (by decide) ?_
              refine o_ild X0 H at_171 rfl ?_
              refine o_ic X0 H at_173 (v := 2) rfl ?_
              refine o_icN X0 H at_174 (teq (by decide : (2 : Int32) = (2 : Int32))).2 ?_
              refine o_bi X0 H at_177 (v := 40) rfl ?_
              refine o_ist X0 H at_179 (L' := #[.val (.int p1), .val (.int p2), .val (.int p3), .val (.int s0), .val (.int s1), .val (.int s2), .val (.int (2 : Int32)), .val (.int s0), .val (.int k1), .val (.int (40 : Int32)), .val (.int k3), .val (.int cl), .unset, .unset, .unset, .unset, .unset]) rfl ?_
              refine o_go X0 H at_181 (pc' := 188) (by decide) (by decide) ?_
              exact HM _ _ _ _ ⟨rs0, rk1, (by decide), rk3⟩
          · refine o_ifN X0 H at_125 ((if0 _ _).trans (feq hc259).1) ?_
            refine o_ild X0 H at_128 rfl ?_
            refine o_ic X0 H at_130 (v := 2) rfl ?_
            refine o_icY X0 H at_131 (flt (by decide : ¬ ((2 : Int32) < (2 : Int32)))).2.2.2 (pc' := 138) (by decide) (by decide) ?_
            refine o_ildN X0 H at_138 rfl ?_
            refine o_si X0 H at_139 (v := 128) rfl ?_
            refine o_iand X0 H at_142 ?_
            by_cases hc261 : (p3 &&& (128 : Int32)) = (0 : Int32)
            · refine o_ifY X0 H at_143 ((if0 _ _).trans (teq hc261).1) (pc' := 188) (by decide) (by decide) ?_
              exact HM _ _ _ _ ⟨rs0, rk1, rk2, rk3⟩
            · refine o_ifN X0 H at_143 ((if0 _ _).trans (feq hc261).1) ?_
              refine o_ild X0 H at_146 rfl ?_
              refine o_ifY X0 H at_148 ((if0 _ _).trans (feq (by decide : ¬ ((2 : Int32) = (0 : Int32)))).2) (pc' := 158) (by decide) (by decide) ?_
              refine o_ild X0 H at_158 rfl ?_
              refine o_ic X0 H at_160 (v := 1) rfl ?_
              refine o_icY X0 H at_161 (feq (by decide : ¬ ((2 : Int32) = (1 : Int32)))).2 (pc' := 171) (by decide) (by decide) ?_
              refine o_ild X0 H at_171 rfl ?_
              refine o_ic X0 H at_173 (v := 2) rfl ?_
              refine o_icN X0 H at_174 (teq (by decide : (2 : Int32) = (2 : Int32))).2 ?_
              refine o_bi X0 H at_177 (v := 40) rfl ?_
              refine o_ist X0 H at_179 (L' := #[.val (.int p1), .val (.int p2), .val (.int p3), .val (.int s0), .val (.int s1), .val (.int s2), .val (.int (2 : Int32)), .val (.int s0), .val (.int k1), .val (.int (40 : Int32)), .val (.int k3), .val (.int cl), .unset, .unset, .unset, .unset, .unset]) rfl ?_
              refine o_go X0 H at_181 (pc' := 188) (by decide) (by decide) ?_
              exact HM _ _ _ _ ⟨rs0, rk1, (by decide), rk3⟩
        · refine o_ifN X0 H at_107 ((if0 _ _).trans (feq hc258).1) ?_
          refine o_ild X0 H at_110 rfl ?_
          refine o_ic X0 H at_112 (v := 1) rfl ?_
          refine o_icN X0 H at_113 (tlt (by decide : (1 : Int32) < (2 : Int32))).2.2.2 ?_
          refine o_ild X0 H at_116 rfl ?_
          refine o_ist X0 H at_118 (L' := #[.val (.int p1), .val (.int p2), .val (.int p3), .val (.int s0), .val (.int s1), .val (.int s2), .val (.int (2 : Int32)), .val (.int s0), .val (.int s1), .val (.int k2), .val (.int k3), .val (.int cl), .unset, .unset, .unset, .unset, .unset]) rfl ?_
          refine o_ildN X0 H at_120 rfl ?_
          refine o_ic X0 H at_121 (v := 5) rfl ?_
          refine own_on (fun tq => XS.iushr X0.here hx rfl (hb hby at_122) rfl) ?_
          show own_Fin p e below _ (s₁.setTop (mkF m 123 #[.val (.int p1), .val (.int p2), .val (.int p3), .val (.int s0), .val (.int s1), .val (.int s2), .val (.int (2 : Int32)), .val (.int s0), .val (.int s1), .val (.int k2), .val (.int k3), .val (.int cl), .unset, .unset, .unset, .unset, .unset] [(.int ((p3.toUInt32 >>> ((5 : Int32) &&& 31).toUInt32).toInt32))]))
          refine o_ic X0 H at_123 (v := 1) rfl ?_
          refine o_iand X0 H at_124 ?_
          by_cases hc262 : (((p3.toUInt32 >>> ((5 : Int32) &&& 31).toUInt32).toInt32) &&& (1 : Int32)) = (0 : Int32)
          · refine o_ifY X0 H at_125 ((if0 _ _).trans (teq hc262).1) (pc' := 138) (by decide) (by decide) ?_
            refine o_ildN X0 H at_138 rfl ?_
            refine o_si X0 H at_139 (v := 128) rfl ?_
            refine o_iand X0 H at_142 ?_
            by_cases hc263 : (p3 &&& (128 : Int32)) = (0 : Int32)
            · refine o_ifY X0 H at_143 ((if0 _ _).trans (teq hc263).1) (pc' := 188) (by decide) (by decide) ?_
              exact HM _ _ _ _ ⟨rs0, rs1, rk2, rk3⟩
            · refine o_ifN X0 H at_143 ((if0 _ _).trans (feq hc263).1) ?_
              refine o_ild X0 H at_146 rfl ?_
              refine o_ifY X0 H at_148 ((if0 _ _).trans (feq (by decide : ¬ ((2 : Int32) = (0 : Int32)))).2) (pc' := 158) (by decide) (by decide) ?_
              refine o_ild X0 H at_158 rfl ?_
              refine o_ic X0 H at_160 (v := 1) rfl ?_
              refine o_icY X0 H at_161 (feq (by decide : ¬ ((2 : Int32) = (1 : Int32)))).2 (pc' := 171) (by decide) (by decide) ?_
              refine o_ild X0 H at_171 rfl ?_
              refine o_ic X0 H at_173 (v := 2) rfl ?_
              refine o_icN X0 H at_174 (teq (by decide : (2 : Int32) = (2 : Int32))).2 ?_
              refine o_bi X0 H at_177 (v := 40) rfl ?_
              refine o_ist X0 H at_179 (L' := #[.val (.int p1), .val (.int p2), .val (.int p3), .val (.int s0), .val (.int s1), .val (.int s2), .val (.int (2 : Int32)), .val (.int s0), .val (.int s1), .val (.int (40 : Int32)), .val (.int k3), .val (.int cl), .unset, .unset, .unset, .unset, .unset]) rfl ?_
              refine o_go X0 H at_181 (pc' := 188) (by decide) (by decide) ?_
              exact HM _ _ _ _ ⟨rs0, rs1, (by decide), rk3⟩
          · refine o_ifN X0 H at_125 ((if0 _ _).trans (feq hc262).1) ?_
            refine o_ild X0 H at_128 rfl ?_
            refine o_ic X0 H at_130 (v := 2) rfl ?_
            refine o_icY X0 H at_131 (flt (by decide : ¬ ((2 : Int32) < (2 : Int32)))).2.2.2 (pc' := 138) (by decide) (by decide) ?_
            refine o_ildN X0 H at_138 rfl ?_
            refine o_si X0 H at_139 (v := 128) rfl ?_
            refine o_iand X0 H at_142 ?_
            by_cases hc264 : (p3 &&& (128 : Int32)) = (0 : Int32)
            · refine o_ifY X0 H at_143 ((if0 _ _).trans (teq hc264).1) (pc' := 188) (by decide) (by decide) ?_
              exact HM _ _ _ _ ⟨rs0, rs1, rk2, rk3⟩
            · refine o_ifN X0 H at_143 ((if0 _ _).trans (feq hc264).1) ?_
              refine o_ild X0 H at_146 rfl ?_
              refine o_ifY X0 H at_148 ((if0 _ _).trans (feq (by decide : ¬ ((2 : Int32) = (0 : Int32)))).2) (pc' := 158) (by decide) (by decide) ?_
              refine o_ild X0 H at_158 rfl ?_
              refine o_ic X0 H at_160 (v := 1) rfl ?_
              refine o_icY X0 H at_161 (feq (by decide : ¬ ((2 : Int32) = (1 : Int32)))).2 (pc' := 171) (by decide) (by decide) ?_
              refine o_ild X0 H at_171 rfl ?_
              refine o_ic X0 H at_173 (v := 2) rfl ?_
              refine o_icN X0 H at_174 (teq (by decide : (2 : Int32) = (2 : Int32))).2 ?_
              refine o_bi X0 H at_177 (v := 40) rfl ?_
              refine o_ist X0 H at_179 (L' := #[.val (.int p1), .val (.int p2), .val (.int p3), .val (.int s0), .val (.int s1), .val (.int s2), .val (.int (2 : Int32)), .val (.int s0), .val (.int s1), .val (.int (40 : Int32)), .val (.int k3), .val (.int cl), .unset, .unset, .unset, .unset, .unset]) rfl ?_
              refine o_go X0 H at_181 (pc' := 188) (by decide) (by decide) ?_
              exact HM _ _ _ _ ⟨rs0, rs1, (by decide), rk3⟩
  · rw [hn]
    show own_Fin p e below _ (s₁.setTop (mkF m 86 #[.val (.int p1), .val (.int p2), .val (.int p3), .val (.int s0), .val (.int s1), .val (.int s2), .val (.int (3 : Int32)), .val (.int k0), .val (.int k1), .val (.int k2), .val (.int k3), .val (.int cl), .unset, .unset, .unset, .unset, .unset] []))
    refine own_mergeA (B := fun w0 w1 w2 w3 => (s₁.setTop (mkF m 188 #[.val (.int p1), .val (.int p2), .val (.int p3), .val (.int s0), .val (.int s1), .val (.int s2), .val (.int (3 : Int32)), .val (.int w0), .val (.int w1), .val (.int w2), .val (.int w3), .val (.int cl), .unset, .unset, .unset, .unset, .unset] []))) (R := fun w0 w1 w2 w3 => ((¬ w0 < 0 ∧ ¬ (255 : Int32) < w0) ∧ (¬ w1 < 0 ∧ ¬ (255 : Int32) < w1) ∧ (¬ w2 < 0 ∧ ¬ (255 : Int32) < w2) ∧ (¬ w3 < 0 ∧ ¬ (255 : Int32) < w3))) ?_ (fun HM => ?_)
    · intro w0 w1 w2 w3 hR
      obtain ⟨rw0, rw1, rw2, rw3⟩ := hR
      show own_Fin p e below _ (s₁.setTop (mkF m 188 #[.val (.int p1), .val (.int p2), .val (.int p3), .val (.int s0), .val (.int s1), .val (.int s2), .val (.int (3 : Int32)), .val (.int w0), .val (.int w1), .val (.int w2), .val (.int w3), .val (.int cl), .unset, .unset, .unset, .unset, .unset] []))
      refine o_ildN X0 H at_188 rfl ?_
      refine o_ild X0 H at_189 rfl ?_
      refine o_ild X0 H at_191 rfl ?_
      refine o_ild X0 H at_193 rfl ?_
      refine o_ild X0 H at_195 rfl ?_
      refine o_tc (argsL := [(.int s0), (.int s1), (.int s2), (.int s2), (.int (3 : Int32))]) (rest := []) X0 H hml hZ hown (ow hw 0 rfl) (ow hw 1 rfl) (ow hw 2 rfl) (ow hw 3 rfl) (backOf (W := 0) (rmMk3 l Z a0 hw [] s0 s1 s2 s2 z h0 n0 (by exact Z0) rs0 rs1 rs2 rs2 hz O SC) hZ (ow hw 3 rfl) (ow hw 2 rfl) (by decide) (by decide)) (by decide) e0 pd_24 at_197 rfl rfl rfl rfl rfl (by decide) (by decide) fun _ T265 Lc265 X265 hQ265 => ?_
      obtain ⟨x265, t265, kt265, rfl, N265q, K265, Eq265, Cq265, Vq265, Aq265⟩ := hQ265
      have N265 := Fr.app N0 N265q
      show own_Fin p e below _ (T265.setTop (mkF m 200 #[.val (.int p1), .val (.int p2), .val (.int p3), .val (.int s0), .val (.int s1), .val (.int s2), .val (.int (3 : Int32)), .val (.int w0), .val (.int w1), .val (.int w2), .val (.int w3), .val (.int cl), .unset, .unset, .unset, .unset, .unset] [(.ref x265)]))
      refine o_ast X265 H at_200 (L' := #[.val (.int p1), .val (.int p2), .val (.int p3), .val (.int s0), .val (.int s1), .val (.int s2), .val (.int (3 : Int32)), .val (.int w0), .val (.int w1), .val (.int w2), .val (.int w3), .val (.int cl), .val (.ref x265), .unset, .unset, .unset, .unset]) rfl rfl ?_
      rcases (hcl ▸ own_rem5 _ : cl = 0 ∨ cl = 1 ∨ cl = 2 ∨ cl = 3 ∨ cl = 4) with hm | hm | hm | hm | hm
      · rw [hm]
        show own_Fin p e below _ (T265.setTop (mkF m 202 #[.val (.int p1), .val (.int p2), .val (.int p3), .val (.int s0), .val (.int s1), .val (.int s2), .val (.int (3 : Int32)), .val (.int w0), .val (.int w1), .val (.int w2), .val (.int w3), .val (.int (0 : Int32)), .val (.ref x265), .unset, .unset, .unset, .unset] []))
        refine o_ild X265 H at_202 rfl ?_
        refine o_ild X265 H at_204 rfl ?_
        refine o_ild X265 H at_206 rfl ?_
        refine o_ild X265 H at_208 rfl ?_
        refine o_ild X265 H at_210 rfl ?_
        obtain ⟨_, _, ⟨T266, L266, k266, n266⟩, -, X266', S266', gr266, ⟨Lc266, hQ266, l266, y266, z266, A266⟩, st266⟩ := callSS X265 hx (y := (⟨"com/example/covenantry/covenantry/input/LedgerIsUnderPinLaw", "mk", "(CCCCI)Ljava/lang/String;"⟩ : MethodName)) hown (mvT hZ (ow hw 0 rfl)) (mvT hZ (ow hw 1 rfl)) (mvT hZ (ow hw 2 rfl)) (mvT hZ (ow hw 3 rfl)) (by decide) (backOfSH (s := s) (W := 0) (rmMk0 l Z a0 hw [] w0 w1 w2 w3 z T265.heap n0 (by exact (Nat.le_trans Z0 K265.1)) hEL rw0 rw1 rw2 rw3 hz (O.keep K265 all0) SC) hZ (ow hw 3 rfl) (ow hw 2 rfl) (by decide) (by decide) hEL (CHv.keep K265 sf0 CH0)) (g := (mkF m 212 #[.val (.int p1), .val (.int p2), .val (.int p3), .val (.int s0), .val (.int s1), .val (.int s2), .val (.int (3 : Int32)), .val (.int w0), .val (.int w1), .val (.int w2), .val (.int w3), .val (.int (0 : Int32)), .val (.ref x265), .unset, .unset, .unset, .unset] [(.int (0 : Int32)), (.int w3), (.int w2), (.int w1), (.int w0)])) rfl hml.symm (argsL := [(.int w0), (.int w1), (.int w2), (.int w3), (.int (0 : Int32))]) (rest := []) (lenOf pd_24 rfl) rfl (o_mr rfl) (hb hby at_212) (fun _ _ => ⟨rfl, rfl, (by decide : 3 + 6 ≤ _), (by decide : 10 + 12 ≤ _)⟩)
        dsimp only [Pt.U, Pt.locs, Pt.cells, Pt.slots] at X266' S266' gr266 l266 y266 z266 st266 hQ266 A266
        replace l266 := l266.symm; replace y266 := y266.symm; replace z266 := z266.symm; subst l266 y266 z266
        obtain ⟨X266, hS266, hZ266, hown266⟩ := rebS hS0 (by first | exact (Nat.le_trans (Nat.zero_le _) K265.1) | (rw [(rfl : 0 = 0)]; exact (Nat.le_trans (Nat.zero_le _) K265.1))) X266' S266' gr266 hZ hown
        obtain ⟨x266, t266, kt266, rfl, N266q, K266, Eq266, Cq266, Vq266, Aq266⟩ := hQ266
        have N266 := Fr.app N265 N266q
        refine own_via st266 ?_
        show own_Fin p e below _ (T266.setTop (mkF m 215 #[.val (.int p1), .val (.int p2), .val (.int p3), .val (.int s0), .val (.int s1), .val (.int s2), .val (.int (3 : Int32)), .val (.int w0), .val (.int w1), .val (.int w2), .val (.int w3), .val (.int (0 : Int32)), .val (.ref x265), .unset, .unset, .unset, .unset] [(.ref x266)]))
        refine o_ast X266 H at_215 (L' := #[.val (.int p1), .val (.int p2), .val (.int p3), .val (.int s0), .val (.int s1), .val (.int s2), .val (.int (3 : Int32)), .val (.int w0), .val (.int w1), .val (.int w2), .val (.int w3), .val (.int (0 : Int32)), .val (.ref x265), .val (.ref x266), .unset, .unset, .unset]) rfl rfl ?_
        refine o_ild X266 H at_217 rfl ?_
        refine o_ic X266 H at_219 (v := 1) rfl ?_
        refine o_icN X266 H at_220 (flt (by decide : ¬ ((3 : Int32) < (1 : Int32)))).1 ?_
        refine o_ild X266 H at_223 rfl ?_
        refine o_ildN X266 H at_225 rfl ?_
        by_cases hc267 : w0 = s0
        · refine o_icN X266 H at_226 (teq hc267).2 ?_
          refine o_ild X266 H at_229 rfl ?_
          refine o_ic X266 H at_231 (v := 2) rfl ?_
          refine o_icN X266 H at_232 (flt (by decide : ¬ ((3 : Int32) < (2 : Int32)))).1 ?_
          refine o_ild X266 H at_235 rfl ?_
          refine o_ild X266 H at_237 rfl ?_
          by_cases hc268 : w1 = s1
          · refine o_icN X266 H at_239 (teq hc268).2 ?_
            refine o_ild X266 H at_242 rfl ?_
            refine o_ic X266 H at_244 (v := 3) rfl ?_
            refine o_icN X266 H at_245 (flt (by decide : ¬ ((3 : Int32) < (3 : Int32)))).1 ?_
            refine o_ild X266 H at_248 rfl ?_
            refine o_ild X266 H at_250 rfl ?_
            by_cases hc269 : w2 = s2
            · refine o_icN X266 H at_252 (teq hc269).2 ?_
              refine o_ic X266 H at_255 (v := 1) rfl ?_
              refine o_go X266 H at_256 (pc' := 260) (by decide) (by decide) ?_
              refine o_ist X266 H at_260 (L' := #[.val (.int p1), .val (.int p2), .val (.int p3), .val (.int s0), .val (.int s1), .val (.int s2), .val (.int (3 : Int32)), .val (.int w0), .val (.int w1), .val (.int w2), .val (.int w3), .val (.int (0 : Int32)), .val (.ref x265), .val (.ref x266), .val (.int (1 : Int32)), .unset, .unset]) rfl ?_
              refine o_ild X266 H at_262 rfl ?_
              refine o_ifY X266 H at_264 ((if0 _ _).trans (feq (by decide : ¬ ((3 : Int32) = (0 : Int32)))).2) (pc' := 272) (by decide) (by decide) ?_
              refine o_ild X266 H at_272 rfl ?_
              refine o_ic X266 H at_274 (v := 1) rfl ?_
              refine o_icY X266 H at_275 (feq (by decide : ¬ ((3 : Int32) = (1 : Int32)))).2 (pc' := 283) (by decide) (by decide) ?_
              refine o_ild X266 H at_283 rfl ?_
              refine o_ic X266 H at_285 (v := 2) rfl ?_
              refine o_icY X266 H at_286 (feq (by decide : ¬ ((3 : Int32) = (2 : Int32)))).2 (pc' := 294) (by decide) (by decide) ?_
              refine o_ild X266 H at_294 rfl ?_
              refine o_ist X266 H at_296 (L' := #[.val (.int p1), .val (.int p2), .val (.int p3), .val (.int s0), .val (.int s1), .val (.int s2), .val (.int (3 : Int32)), .val (.int w0), .val (.int w1), .val (.int w2), .val (.int w3), .val (.int (0 : Int32)), .val (.ref x265), .val (.ref x266), .val (.int (1 : Int32)), .val (.int w3), .unset]) rfl ?_
              refine o_ild X266 H at_298 rfl ?_
              refine o_ild X266 H at_300 rfl ?_
              refine o_icY X266 H at_302 (tlt (by decide : (0 : Int32) < (3 : Int32))).1 (pc' := 328) (by decide) (by decide) ?_
              refine o_ic X266 H at_328 (v := 0) rfl ?_
              refine o_ist X266 H at_329 (L' := #[.val (.int p1), .val (.int p2), .val (.int p3), .val (.int s0), .val (.int s1), .val (.int s2), .val (.int (3 : Int32)), .val (.int w0), .val (.int w1), .val (.int w2), .val (.int w3), .val (.int (0 : Int32)), .val (.ref x265), .val (.ref x266), .val (.int (1 : Int32)), .val (.int w3), .val (.int (0 : Int32))]) rfl ?_
              exact PT _ _ _ _ _ _ _ _ _ _ _ _ _ _ x266 t266 x265 t265 kt266 kt265 0 3 ([] : List Int32) [s0, s1, s2] _ rfl rfl (by decide) (by decide) (fun _ q => nomatch q) (List.forall_mem_cons.mpr ⟨rs0, List.forall_mem_cons.mpr ⟨rs1, List.forall_mem_cons.mpr ⟨rs2, fun _ q => nomatch q⟩⟩⟩) (Or.inr ⟨rfl, (own_U_0_3 s0 s1 s2)⟩) T266 _ _ _ _ (X266.more (by decide) (by decide)) rfl N266 hS266 hZ266 hown266 A266.1 (CHr.trans (CHr.trans (CHr.refl CH0) (CHr.keep K265 sf0 CH0)) A266) (Nat.le_refl (Array.size T266.heap)) (Nat.le_trans (Nat.le_trans Z0 K265.1) K266.1) ((O.keep K265 all0).keep K266 all0) Eq266 Cq266 Vq266 Aq266 (Eq265.keep K266) (Cq265.keep K266 nin0) (Vq265.keep K266 nin0) (Aq265.keep K266 nin0)
            · refine o_icY X266 H at_252 (feq hc269).2 (pc' := 259) (by decide) (by decide) ?_
              refine o_ic X266 H at_259 (v := 0) rfl ?_
              refine o_ist X266 H at_260 (L' := #[.val (.int p1), .val (.int p2), .val (.int p3), .val (.int s0), .val (.int s1), .val (.int s2), .val (.int (3 : Int32)), .val (.int w0), .val (.int w1), .val (.int w2), .val (.int w3), .val (.int (0 : Int32)), .val (.ref x265), .val (.ref x266), .val (.int (0 : Int32)), .unset, .unset]) rfl ?_
              refine o_ild X266 H at_262 rfl ?_
              refine o_ifY X266 H at_264 ((if0 _ _).trans (feq (by decide : ¬ ((3 : Int32) = (0 : Int32)))).2) (pc' := 272) (by decide) (by decide) ?_
              refine o_ild X266 H at_272 rfl ?_
              refine o_ic X266 H at_274 (v := 1) rfl ?_
              refine o_icY X266 H at_275 (feq (by decide : ¬ ((3 : Int32) = (1 : Int32)))).2 (pc' := 283) (by decide) (by decide) ?_
              refine o_ild X266 H at_283 rfl ?_
              refine o_ic X266 H at_285 (v := 2) rfl ?_
              refine o_icY X266 H at_286 (feq (by decide : ¬ ((3 : Int32) = (2 : Int32)))).2 (pc' := 294) (by decide) (by decide) ?_
              refine o_ild X266 H at_294 rfl ?_
              refine o_ist X266 H at_296 (L' := #[.val (.int p1), .val (.int p2), .val (.int p3), .val (.int s0), .val (.int s1), .val (.int s2), .val (.int (3 : Int32)), .val (.int w0), .val (.int w1), .val (.int w2), .val (.int w3), .val (.int (0 : Int32)), .val (.ref x265), .val (.ref x266), .val (.int (0 : Int32)), .val (.int w3), .unset]) rfl ?_
              refine o_ild X266 H at_298 rfl ?_
              refine o_ild X266 H at_300 rfl ?_
              refine o_icY X266 H at_302 (tlt (by decide : (0 : Int32) < (3 : Int32))).1 (pc' := 328) (by decide) (by decide) ?_
              refine o_ic X266 H at_328 (v := 0) rfl ?_
              refine o_ist X266 H at_329 (L' := #[.val (.int p1), .val (.int p2), .val (.int p3), .val (.int s0), .val (.int s1), .val (.int s2), .val (.int (3 : Int32)), .val (.int w0), .val (.int w1), .val (.int w2), .val (.int w3), .val (.int (0 : Int32)), .val (.ref x265), .val (.ref x266), .val (.int (0 : Int32)), .val (.int w3), .val (.int (0 : Int32))]) rfl ?_
              exact PT _ _ _ _ _ _ _ _ _ _ _ _ _ _ x266 t266 x265 t265 kt266 kt265 0 3 ([] : List Int32) [s0, s1, s2] _ rfl rfl (by decide) (by decide) (fun _ q => nomatch q) (List.forall_mem_cons.mpr ⟨rs0, List.forall_mem_cons.mpr ⟨rs1, List.forall_mem_cons.mpr ⟨rs2, fun _ q => nomatch q⟩⟩⟩) (Or.inr ⟨rfl, (own_U_0_3 s0 s1 s2)⟩) T266 _ _ _ _ (X266.more (by decide) (by decide)) rfl N266 hS266 hZ266 hown266 A266.1 (CHr.trans (CHr.trans (CHr.refl CH0) (CHr.keep K265 sf0 CH0)) A266) (Nat.le_refl (Array.size T266.heap)) (Nat.le_trans (Nat.le_trans Z0 K265.1) K266.1) ((O.keep K265 all0).keep K266 all0) Eq266 Cq266 Vq266 Aq266 (Eq265.keep K266) (Cq265.keep K266 nin0) (Vq265.keep K266 nin0) (Aq265.keep K266 nin0)
          · refine o_icY X266 H at_239 (feq hc268).2 (pc' := 259) (by decide) (by decide) ?_
            refine o_ic X266 H at_259 (v := 0) rfl ?_
            refine o_ist X266 H at_260 (L' := #[.val (.int p1), .val (.int p2), .val (.int p3), .val (.int s0), .val (.int s1), .val (.int s2), .val (.int (3 : Int32)), .val (.int w0), .val (.int w1), .val (.int w2), .val (.int w3), .val (.int (0 : Int32)), .val (.ref x265), .val (.ref x266), .val (.int (0 : Int32)), .unset, .unset]) rfl ?_
            refine o_ild X266 H at_262 rfl ?_
            refine o_ifY X266 H at_264 ((if0 _ _).trans (feq (by decide : ¬ ((3 : Int32) = (0 : Int32)))).2) (pc' := 272) (by decide) (by decide) ?_
            refine o_ild X266 H at_272 rfl ?_
            refine o_ic X266 H at_274 (v := 1) rfl ?_
            refine o_icY X266 H at_275 (feq (by decide : ¬ ((3 : Int32) = (1 : Int32)))).2 (pc' := 283) (by decide) (by decide) ?_
            refine o_ild X266 H at_283 rfl ?_
            refine o_ic X266 H at_285 (v := 2) rfl ?_
            refine o_icY X266 H at_286 (feq (by decide : ¬ ((3 : Int32) = (2 : Int32)))).2 (pc' := 294) (by decide) (by decide) ?_
            refine o_ild X266 H at_294 rfl ?_
            refine o_ist X266 H at_296 (L' := #[.val (.int p1), .val (.int p2), .val (.int p3), .val (.int s0), .val (.int s1), .val (.int s2), .val (.int (3 : Int32)), .val (.int w0), .val (.int w1), .val (.int w2), .val (.int w3), .val (.int (0 : Int32)), .val (.ref x265), .val (.ref x266), .val (.int (0 : Int32)), .val (.int w3), .unset]) rfl ?_
            refine o_ild X266 H at_298 rfl ?_
            refine o_ild X266 H at_300 rfl ?_
            refine o_icY X266 H at_302 (tlt (by decide : (0 : Int32) < (3 : Int32))).1 (pc' := 328) (by decide) (by decide) ?_
            refine o_ic X266 H at_328 (v := 0) rfl ?_
            refine o_ist X266 H at_329 (L' := #[.val (.int p1), .val (.int p2), .val (.int p3), .val (.int s0), .val (.int s1), .val (.int s2), .val (.int (3 : Int32)), .val (.int w0), .val (.int w1), .val (.int w2), .val (.int w3), .val (.int (0 : Int32)), .val (.ref x265), .val (.ref x266), .val (.int (0 : Int32)), .val (.int w3), .val (.int (0 : Int32))]) rfl ?_
            exact PT _ _ _ _ _ _ _ _ _ _ _ _ _ _ x266 t266 x265 t265 kt266 kt265 0 3 ([] : List Int32) [s0, s1, s2] _ rfl rfl (by decide) (by decide) (fun _ q => nomatch q) (List.forall_mem_cons.mpr ⟨rs0, List.forall_mem_cons.mpr ⟨rs1, List.forall_mem_cons.mpr ⟨rs2, fun _ q => nomatch q⟩⟩⟩) (Or.inr ⟨rfl, (own_U_0_3 s0 s1 s2)⟩) T266 _ _ _ _ (X266.more (by decide) (by decide)) rfl N266 hS266 hZ266 hown266 A266.1 (CHr.trans (CHr.trans (CHr.refl CH0) (CHr.keep K265 sf0 CH0)) A266) (Nat.le_refl (Array.size T266.heap)) (Nat.le_trans (Nat.le_trans Z0 K265.1) K266.1) ((O.keep K265 all0).keep K266 all0) Eq266 Cq266 Vq266 Aq266 (Eq265.keep K266) (Cq265.keep K266 nin0) (Vq265.keep K266 nin0) (Aq265.keep K266 nin0)
        · refine o_icY X266 H at_226 (feq hc267).2 (pc' := 259) (by decide) (by decide) ?_
          refine o_ic X266 H at_259 (v := 0) rfl ?_
          refine o_ist X266 H at_260 (L' := #[.val (.int p1), .val (.int p2), .val (.int p3), .val (.int s0), .val (.int s1), .val (.int s2), .val (.int (3 : Int32)), .val (.int w0), .val (.int w1), .val (.int w2), .val (.int w3), .val (.int (0 : Int32)), .val (.ref x265), .val (.ref x266), .val (.int (0 : Int32)), .unset, .unset]) rfl ?_
          refine o_ild X266 H at_262 rfl ?_
          refine o_ifY X266 H at_264 ((if0 _ _).trans (feq (by decide : ¬ ((3 : Int32) = (0 : Int32)))).2) (pc' := 272) (by decide) (by decide) ?_
          refine o_ild X266 H at_272 rfl ?_
          refine o_ic X266 H at_274 (v := 1) rfl ?_
          refine o_icY X266 H at_275 (feq (by decide : ¬ ((3 : Int32) = (1 : Int32)))).2 (pc' := 283) (by decide) (by decide) ?_
          refine o_ild X266 H at_283 rfl ?_
          refine o_ic X266 H at_285 (v := 2) rfl ?_
          refine o_icY X266 H at_286 (feq (by decide : ¬ ((3 : Int32) = (2 : Int32)))).2 (pc' := 294) (by decide) (by decide) ?_
          refine o_ild X266 H at_294 rfl ?_
          refine o_ist X266 H at_296 (L' := #[.val (.int p1), .val (.int p2), .val (.int p3), .val (.int s0), .val (.int s1), .val (.int s2), .val (.int (3 : Int32)), .val (.int w0), .val (.int w1), .val (.int w2), .val (.int w3), .val (.int (0 : Int32)), .val (.ref x265), .val (.ref x266), .val (.int (0 : Int32)), .val (.int w3), .unset]) rfl ?_
          refine o_ild X266 H at_298 rfl ?_
          refine o_ild X266 H at_300 rfl ?_
          refine o_icY X266 H at_302 (tlt (by decide : (0 : Int32) < (3 : Int32))).1 (pc' := 328) (by decide) (by decide) ?_
          refine o_ic X266 H at_328 (v := 0) rfl ?_
          refine o_ist X266 H at_329 (L' := #[.val (.int p1), .val (.int p2), .val (.int p3), .val (.int s0), .val (.int s1), .val (.int s2), .val (.int (3 : Int32)), .val (.int w0), .val (.int w1), .val (.int w2), .val (.int w3), .val (.int (0 : Int32)), .val (.ref x265), .val (.ref x266), .val (.int (0 : Int32)), .val (.int w3), .val (.int (0 : Int32))]) rfl ?_
          exact PT _ _ _ _ _ _ _ _ _ _ _ _ _ _ x266 t266 x265 t265 kt266 kt265 0 3 ([] : List Int32) [s0, s1, s2] _ rfl rfl (by decide) (by decide) (fun _ q => nomatch q) (List.forall_mem_cons.mpr ⟨rs0, List.forall_mem_cons.mpr ⟨rs1, List.forall_mem_cons.mpr ⟨rs2, fun _ q => nomatch q⟩⟩⟩) (Or.inr ⟨rfl, (own_U_0_3 s0 s1 s2)⟩) T266 _ _ _ _ (X266.more (by decide) (by decide)) rfl N266 hS266 hZ266 hown266 A266.1 (CHr.trans (CHr.trans (CHr.refl CH0) (CHr.keep K265 sf0 CH0)) A266) (Nat.le_refl (Array.size T266.heap)) (Nat.le_trans (Nat.le_trans Z0 K265.1) K266.1) ((O.keep K265 all0).keep K266 all0) Eq266 Cq266 Vq266 Aq266 (Eq265.keep K266) (Cq265.keep K266 nin0) (Vq265.keep K266 nin0) (Aq265.keep K266 nin0)
      · rw [hm]
        show own_Fin p e below _ (T265.setTop (mkF m 202 #[.val (.int p1), .val (.int p2), .val (.int p3), .val (.int s0), .val (.int s1), .val (.int s2), .val (.int (3 : Int32)), .val (.int w0), .val (.int w1), .val (.int w2), .val (.int w3), .val (.int (1 : Int32)), .val (.ref x265), .unset, .unset, .unset, .unset] []))
        refine o_ild X265 H at_202 rfl ?_
        refine o_ild X265 H at_204 rfl ?_
        refine o_ild X265 H at_206 rfl ?_
        refine o_ild X265 H at_208 rfl ?_
        refine o_ild X265 H at_210 rfl ?_
        refine o_tc (argsL := [(.int w0), (.int w1), (.int w2), (.int w3), (.int (1 : Int32))]) (rest := []) X265 H hml hZ hown (ow hw 0 rfl) (ow hw 1 rfl) (ow hw 2 rfl) (ow hw 3 rfl) (backOf (W := 0) (rmMk1 l Z a0 hw [] w0 w1 w2 w3 z T265.heap n0 (by exact (Nat.le_trans Z0 K265.1)) rw0 rw1 rw2 rw3 hz (O.keep K265 all0) SC) hZ (ow hw 3 rfl) (ow hw 2 rfl) (by decide) (by decide)) (by decide) rfl pd_24 at_212 rfl rfl rfl rfl rfl (by decide) (by decide) fun _ T270 Lc270 X270 hQ270 => ?_
        obtain ⟨x270, t270, kt270, rfl, N270q, K270, Eq270, Cq270, Vq270, Aq270⟩ := hQ270
        have N270 := Fr.app N265 N270q
        show own_Fin p e below _ (T270.setTop (mkF m 215 #[.val (.int p1), .val (.int p2), .val (.int p3), .val (.int s0), .val (.int s1), .val (.int s2), .val (.int (3 : Int32)), .val (.int w0), .val (.int w1), .val (.int w2), .val (.int w3), .val (.int (1 : Int32)), .val (.ref x265), .unset, .unset, .unset, .unset] [(.ref x270)]))
        refine o_ast X270 H at_215 (L' := #[.val (.int p1), .val (.int p2), .val (.int p3), .val (.int s0), .val (.int s1), .val (.int s2), .val (.int (3 : Int32)), .val (.int w0), .val (.int w1), .val (.int w2), .val (.int w3), .val (.int (1 : Int32)), .val (.ref x265), .val (.ref x270), .unset, .unset, .unset]) rfl rfl ?_
        refine o_ild X270 H at_217 rfl ?_
        refine o_ic X270 H at_219 (v := 1) rfl ?_
        refine o_icN X270 H at_220 (flt (by decide : ¬ ((3 : Int32) < (1 : Int32)))).1 ?_
        refine o_ild X270 H at_223 rfl ?_
        refine o_ildN X270 H at_225 rfl ?_
        by_cases hc271 : w0 = s0
        · refine o_icN X270 H at_226 (teq hc271).2 ?_
          refine o_ild X270 H at_229 rfl ?_
          refine o_ic X270 H at_231 (v := 2) rfl ?_
          refine o_icN X270 H at_232 (flt (by decide : ¬ ((3 : Int32) < (2 : Int32)))).1 ?_
          refine o_ild X270 H at_235 rfl ?_
          refine o_ild X270 H at_237 rfl ?_
          by_cases hc272 : w1 = s1
          · refine o_icN X270 H at_239 (teq hc272).2 ?_
            refine o_ild X270 H at_242 rfl ?_
            refine o_ic X270 H at_244 (v := 3) rfl ?_
            refine o_icN X270 H at_245 (flt (by decide : ¬ ((3 : Int32) < (3 : Int32)))).1 ?_
            refine o_ild X270 H at_248 rfl ?_
            refine o_ild X270 H at_250 rfl ?_
            by_cases hc273 : w2 = s2
            · refine o_icN X270 H at_252 (teq hc273).2 ?_
              refine o_ic X270 H at_255 (v := 1) rfl ?_
              refine o_go X270 H at_256 (pc' := 260) (by decide) (by decide) ?_
              refine o_ist X270 H at_260 (L' := #[.val (.int p1), .val (.int p2), .val (.int p3), .val (.int s0), .val (.int s1), .val (.int s2), .val (.int (3 : Int32)), .val (.int w0), .val (.int w1), .val (.int w2), .val (.int w3), .val (.int (1 : Int32)), .val (.ref x265), .val (.ref x270), .val (.int (1 : Int32)), .unset, .unset]) rfl ?_
              refine o_ild X270 H at_262 rfl ?_
              refine o_ifY X270 H at_264 ((if0 _ _).trans (feq (by decide : ¬ ((3 : Int32) = (0 : Int32)))).2) (pc' := 272) (by decide) (by decide) ?_
              refine o_ild X270 H at_272 rfl ?_
              refine o_ic X270 H at_274 (v := 1) rfl ?_
              refine o_icY X270 H at_275 (feq (by decide : ¬ ((3 : Int32) = (1 : Int32)))).2 (pc' := 283) (by decide) (by decide) ?_
              refine o_ild X270 H at_283 rfl ?_
              refine o_ic X270 H at_285 (v := 2) rfl ?_
              refine o_icY X270 H at_286 (feq (by decide : ¬ ((3 : Int32) = (2 : Int32)))).2 (pc' := 294) (by decide) (by decide) ?_
              refine o_ild X270 H at_294 rfl ?_
              refine o_ist X270 H at_296 (L' := #[.val (.int p1), .val (.int p2), .val (.int p3), .val (.int s0), .val (.int s1), .val (.int s2), .val (.int (3 : Int32)), .val (.int w0), .val (.int w1), .val (.int w2), .val (.int w3), .val (.int (1 : Int32)), .val (.ref x265), .val (.ref x270), .val (.int (1 : Int32)), .val (.int w3), .unset]) rfl ?_
              refine o_ild X270 H at_298 rfl ?_
              refine o_ild X270 H at_300 rfl ?_
              refine o_icY X270 H at_302 (tlt (by decide : (1 : Int32) < (3 : Int32))).1 (pc' := 328) (by decide) (by decide) ?_
              refine o_ic X270 H at_328 (v := 0) rfl ?_
              refine o_ist X270 H at_329 (L' := #[.val (.int p1), .val (.int p2), .val (.int p3), .val (.int s0), .val (.int s1), .val (.int s2), .val (.int (3 : Int32)), .val (.int w0), .val (.int w1), .val (.int w2), .val (.int w3), .val (.int (1 : Int32)), .val (.ref x265), .val (.ref x270), .val (.int (1 : Int32)), .val (.int w3), .val (.int (0 : Int32))]) rfl ?_
              exact PT _ _ _ _ _ _ _ _ _ _ _ _ _ _ x270 t270 x265 t265 kt270 kt265 1 3 [w0] [s0, s1, s2] _ rfl rfl (by decide) (by decide) (List.forall_mem_cons.mpr ⟨rw0, fun _ q => nomatch q⟩) (List.forall_mem_cons.mpr ⟨rs0, List.forall_mem_cons.mpr ⟨rs1, List.forall_mem_cons.mpr ⟨rs2, fun _ q => nomatch q⟩⟩⟩) (Or.inr ⟨rfl, (own_U_1_3 w0 s0 s1 s2)⟩) T270 _ _ _ _ (X270.more (by decide) (by decide)) rfl N270 hS0 hZ hown (CHv.keep K270 sf0 (CHv.keep K265 sf0 CH0)) (CHr.trans (CHr.trans (CHr.refl CH0) (CHr.keep K265 sf0 CH0)) (CHr.keep K270 sf0 (CHv.keep K265 sf0 CH0))) (Nat.le_trans (Nat.le_trans (Nat.zero_le _) K265.1) K270.1) (Nat.le_trans (Nat.le_trans Z0 K265.1) K270.1) ((O.keep K265 all0).keep K270 all0) Eq270 Cq270 Vq270 Aq270 (Eq265.keep K270) (Cq265.keep K270 nin0) (Vq265.keep K270 nin0) (Aq265.keep K270 nin0)
            · refine o_icY X270 H at_252 (feq hc273).2 (pc' := 259) (by decide) (by decide) ?_
              refine o_ic X270 H at_259 (v := 0) rfl ?_
              refine o_ist X270 H at_260 (L' := #[.val (.int p1), .val (.int p2), .val (.int p3), .val (.int s0), .val (.int s1), .val (.int s2), .val (.int (3 : Int32)), .val (.int w0), .val (.int w1), .val (.int w2), .val (.int w3), .val (.int (1 : Int32)), .val (.ref x265), .val (.ref x270), .val (.int (0 : Int32)), .unset, .unset]) rfl ?_
              refine o_ild X270 H at_262 rfl ?_
              refine o_ifY X270 H at_264 ((if0 _ _).trans (feq (by decide : ¬ ((3 : Int32) = (0 : Int32)))).2) (pc' := 272) (by decide) (by decide) ?_
              refine o_ild X270 H at_272 rfl ?_
              refine o_ic X270 H at_274 (v := 1) rfl ?_
              refine o_icY X270 H at_275 (feq (by decide : ¬ ((3 : Int32) = (1 : Int32)))).2 (pc' := 283) (by decide) (by decide) ?_
              refine o_ild X270 H at_283 rfl ?_
              refine o_ic X270 H at_285 (v := 2) rfl ?_
              refine o_icY X270 H at_286 (feq (by decide : ¬ ((3 : Int32) = (2 : Int32)))).2 (pc' := 294) (by decide) (by decide) ?_
              refine o_ild X270 H at_294 rfl ?_
              refine o_ist X270 H at_296 (L' := #[.val (.int p1), .val (.int p2), .val (.int p3), .val (.int s0), .val (.int s1), .val (.int s2), .val (.int (3 : Int32)), .val (.int w0), .val (.int w1), .val (.int w2), .val (.int w3), .val (.int (1 : Int32)), .val (.ref x265), .val (.ref x270), .val (.int (0 : Int32)), .val (.int w3), .unset]) rfl ?_
              refine o_ild X270 H at_298 rfl ?_
              refine o_ild X270 H at_300 rfl ?_
              refine o_icY X270 H at_302 (tlt (by decide : (1 : Int32) < (3 : Int32))).1 (pc' := 328) (by decide) (by decide) ?_
              refine o_ic X270 H at_328 (v := 0) rfl ?_
              refine o_ist X270 H at_329 (L' := #[.val (.int p1), .val (.int p2), .val (.int p3), .val (.int s0), .val (.int s1), .val (.int s2), .val (.int (3 : Int32)), .val (.int w0), .val (.int w1), .val (.int w2), .val (.int w3), .val (.int (1 : Int32)), .val (.ref x265), .val (.ref x270), .val (.int (0 : Int32)), .val (.int w3), .val (.int (0 : Int32))]) rfl ?_
              exact PT _ _ _ _ _ _ _ _ _ _ _ _ _ _ x270 t270 x265 t265 kt270 kt265 1 3 [w0] [s0, s1, s2] _ rfl rfl (by decide) (by decide) (List.forall_mem_cons.mpr ⟨rw0, fun _ q => nomatch q⟩) (List.forall_mem_cons.mpr ⟨rs0, List.forall_mem_cons.mpr ⟨rs1, List.forall_mem_cons.mpr ⟨rs2, fun _ q => nomatch q⟩⟩⟩) (Or.inr ⟨rfl, (own_U_1_3 w0 s0 s1 s2)⟩) T270 _ _ _ _ (X270.more (by decide) (by decide)) rfl N270 hS0 hZ hown (CHv.keep K270 sf0 (CHv.keep K265 sf0 CH0)) (CHr.trans (CHr.trans (CHr.refl CH0) (CHr.keep K265 sf0 CH0)) (CHr.keep K270 sf0 (CHv.keep K265 sf0 CH0))) (Nat.le_trans (Nat.le_trans (Nat.zero_le _) K265.1) K270.1) (Nat.le_trans (Nat.le_trans Z0 K265.1) K270.1) ((O.keep K265 all0).keep K270 all0) Eq270 Cq270 Vq270 Aq270 (Eq265.keep K270) (Cq265.keep K270 nin0) (Vq265.keep K270 nin0) (Aq265.keep K270 nin0)
          · refine o_icY X270 H at_239 (feq hc272).2 (pc' := 259) (by decide) (by decide) ?_
            refine o_ic X270 H at_259 (v := 0) rfl ?_
            refine o_ist X270 H at_260 (L' := #[.val (.int p1), .val (.int p2), .val (.int p3), .val (.int s0), .val (.int s1), .val (.int s2), .val (.int (3 : Int32)), .val (.int w0), .val (.int w1), .val (.int w2), .val (.int w3), .val (.int (1 : Int32)), .val (.ref x265), .val (.ref x270), .val (.int (0 : Int32)), .unset, .unset]) rfl ?_
            refine o_ild X270 H at_262 rfl ?_
            refine o_ifY X270 H at_264 ((if0 _ _).trans (feq (by decide : ¬ ((3 : Int32) = (0 : Int32)))).2) (pc' := 272) (by decide) (by decide) ?_
            refine o_ild X270 H at_272 rfl ?_
            refine o_ic X270 H at_274 (v := 1) rfl ?_
            refine o_icY X270 H at_275 (feq (by decide : ¬ ((3 : Int32) = (1 : Int32)))).2 (pc' := 283) (by decide) (by decide) ?_
            refine o_ild X270 H at_283 rfl ?_
            refine o_ic X270 H at_285 (v := 2) rfl ?_
            refine o_icY X270 H at_286 (feq (by decide : ¬ ((3 : Int32) = (2 : Int32)))).2 (pc' := 294) (by decide) (by decide) ?_
            refine o_ild X270 H at_294 rfl ?_
            refine o_ist X270 H at_296 (L' := #[.val (.int p1), .val (.int p2), .val (.int p3), .val (.int s0), .val (.int s1), .val (.int s2), .val (.int (3 : Int32)), .val (.int w0), .val (.int w1), .val (.int w2), .val (.int w3), .val (.int (1 : Int32)), .val (.ref x265), .val (.ref x270), .val (.int (0 : Int32)), .val (.int w3), .unset]) rfl ?_
            refine o_ild X270 H at_298 rfl ?_
            refine o_ild X270 H at_300 rfl ?_
            refine o_icY X270 H at_302 (tlt (by decide : (1 : Int32) < (3 : Int32))).1 (pc' := 328) (by decide) (by decide) ?_
            refine o_ic X270 H at_328 (v := 0) rfl ?_
            refine o_ist X270 H at_329 (L' := #[.val (.int p1), .val (.int p2), .val (.int p3), .val (.int s0), .val (.int s1), .val (.int s2), .val (.int (3 : Int32)), .val (.int w0), .val (.int w1), .val (.int w2), .val (.int w3), .val (.int (1 : Int32)), .val (.ref x265), .val (.ref x270), .val (.int (0 : Int32)), .val (.int w3), .val (.int (0 : Int32))]) rfl ?_
            exact PT _ _ _ _ _ _ _ _ _ _ _ _ _ _ x270 t270 x265 t265 kt270 kt265 1 3 [w0] [s0, s1, s2] _ rfl rfl (by decide) (by decide) (List.forall_mem_cons.mpr ⟨rw0, fun _ q => nomatch q⟩) (List.forall_mem_cons.mpr ⟨rs0, List.forall_mem_cons.mpr ⟨rs1, List.forall_mem_cons.mpr ⟨rs2, fun _ q => nomatch q⟩⟩⟩) (Or.inr ⟨rfl, (own_U_1_3 w0 s0 s1 s2)⟩) T270 _ _ _ _ (X270.more (by decide) (by decide)) rfl N270 hS0 hZ hown (CHv.keep K270 sf0 (CHv.keep K265 sf0 CH0)) (CHr.trans (CHr.trans (CHr.refl CH0) (CHr.keep K265 sf0 CH0)) (CHr.keep K270 sf0 (CHv.keep K265 sf0 CH0))) (Nat.le_trans (Nat.le_trans (Nat.zero_le _) K265.1) K270.1) (Nat.le_trans (Nat.le_trans Z0 K265.1) K270.1) ((O.keep K265 all0).keep K270 all0) Eq270 Cq270 Vq270 Aq270 (Eq265.keep K270) (Cq265.keep K270 nin0) (Vq265.keep K270 nin0) (Aq265.keep K270 nin0)
        · refine o_icY X270 H at_226 (feq hc271).2 (pc' := 259) (by decide) (by decide) ?_
          refine o_ic X270 H at_259 (v := 0) rfl ?_
          refine o_ist X270 H at_260 (L' := #[.val (.int p1), .val (.int p2), .val (.int p3), .val (.int s0), .val (.int s1), .val (.int s2), .val (.int (3 : Int32)), .val (.int w0), .val (.int w1), .val (.int w2), .val (.int w3), .val (.int (1 : Int32)), .val (.ref x265), .val (.ref x270), .val (.int (0 : Int32)), .unset, .unset]) rfl ?_
          refine o_ild X270 H at_262 rfl ?_
          refine o_ifY X270 H at_264 ((if0 _ _).trans (feq (by decide : ¬ ((3 : Int32) = (0 : Int32)))).2) (pc' := 272) (by decide) (by decide) ?_
          refine o_ild X270 H at_272 rfl ?_
          refine o_ic X270 H at_274 (v := 1) rfl ?_
          refine o_icY X270 H at_275 (feq (by decide : ¬ ((3 : Int32) = (1 : Int32)))).2 (pc' := 283) (by decide) (by decide) ?_
          refine o_ild X270 H at_283 rfl ?_
          refine o_ic X270 H at_285 (v := 2) rfl ?_
          refine o_icY X270 H at_286 (feq (by decide : ¬ ((3 : Int32) = (2 : Int32)))).2 (pc' := 294) (by decide) (by decide) ?_
          refine o_ild X270 H at_294 rfl ?_
          refine o_ist X270 H at_296 (L' := #[.val (.int p1), .val (.int p2), .val (.int p3), .val (.int s0), .val (.int s1), .val (.int s2), .val (.int (3 : Int32)), .val (.int w0), .val (.int w1), .val (.int w2), .val (.int w3), .val (.int (1 : Int32)), .val (.ref x265), .val (.ref x270), .val (.int (0 : Int32)), .val (.int w3), .unset]) rfl ?_
          refine o_ild X270 H at_298 rfl ?_
          refine o_ild X270 H at_300 rfl ?_
          refine o_icY X270 H at_302 (tlt (by decide : (1 : Int32) < (3 : Int32))).1 (pc' := 328) (by decide) (by decide) ?_
          refine o_ic X270 H at_328 (v := 0) rfl ?_
          refine o_ist X270 H at_329 (L' := #[.val (.int p1), .val (.int p2), .val (.int p3), .val (.int s0), .val (.int s1), .val (.int s2), .val (.int (3 : Int32)), .val (.int w0), .val (.int w1), .val (.int w2), .val (.int w3), .val (.int (1 : Int32)), .val (.ref x265), .val (.ref x270), .val (.int (0 : Int32)), .val (.int w3), .val (.int (0 : Int32))]) rfl ?_
          exact PT _ _ _ _ _ _ _ _ _ _ _ _ _ _ x270 t270 x265 t265 kt270 kt265 1 3 [w0] [s0, s1, s2] _ rfl rfl (by decide) (by decide) (List.forall_mem_cons.mpr ⟨rw0, fun _ q => nomatch q⟩) (List.forall_mem_cons.mpr ⟨rs0, List.forall_mem_cons.mpr ⟨rs1, List.forall_mem_cons.mpr ⟨rs2, fun _ q => nomatch q⟩⟩⟩) (Or.inr ⟨rfl, (own_U_1_3 w0 s0 s1 s2)⟩) T270 _ _ _ _ (X270.more (by decide) (by decide)) rfl N270 hS0 hZ hown (CHv.keep K270 sf0 (CHv.keep K265 sf0 CH0)) (CHr.trans (CHr.trans (CHr.refl CH0) (CHr.keep K265 sf0 CH0)) (CHr.keep K270 sf0 (CHv.keep K265 sf0 CH0))) (Nat.le_trans (Nat.le_trans (Nat.zero_le _) K265.1) K270.1) (Nat.le_trans (Nat.le_trans Z0 K265.1) K270.1) ((O.keep K265 all0).keep K270 all0) Eq270 Cq270 Vq270 Aq270 (Eq265.keep K270) (Cq265.keep K270 nin0) (Vq265.keep K270 nin0) (Aq265.keep K270 nin0)
      · rw [hm]
        show own_Fin p e below _ (T265.setTop (mkF m 202 #[.val (.int p1), .val (.int p2), .val (.int p3), .val (.int s0), .val (.int s1), .val (.int s2), .val (.int (3 : Int32)), .val (.int w0), .val (.int w1), .val (.int w2), .val (.int w3), .val (.int (2 : Int32)), .val (.ref x265), .unset, .unset, .unset, .unset] []))
        refine o_ild X265 H at_202 rfl ?_
        refine o_ild X265 H at_204 rfl ?_
        refine o_ild X265 H at_206 rfl ?_
        refine o_ild X265 H at_208 rfl ?_
        refine o_ild X265 H at_210 rfl ?_
        refine o_tc (argsL := [(.int w0), (.int w1), (.int w2), (.int w3), (.int (2 : Int32))]) (rest := []) X265 H hml hZ hown (ow hw 0 rfl) (ow hw 1 rfl) (ow hw 2 rfl) (ow hw 3 rfl) (backOf (W := 0) (rmMk2 l Z a0 hw [] w0 w1 w2 w3 z T265.heap n0 (by exact (Nat.le_trans Z0 K265.1)) rw0 rw1 rw2 rw3 hz (O.keep K265 all0) SC) hZ (ow hw 3 rfl) (ow hw 2 rfl) (by decide) (by decide)) (by decide) rfl pd_24 at_212 rfl rfl rfl rfl rfl (by decide) (by decide) fun _ T274 Lc274 X274 hQ274 => ?_
        obtain ⟨x274, t274, kt274, rfl, N274q, K274, Eq274, Cq274, Vq274, Aq274⟩ := hQ274
        have N274 := Fr.app N265 N274q
        show own_Fin p e below _ (T274.setTop (mkF m 215 #[.val (.int p1), .val (.int p2), .val (.int p3), .val (.int s0), .val (.int s1), .val (.int s2), .val (.int (3 : Int32)), .val (.int w0), .val (.int w1), .val (.int w2), .val (.int w3), .val (.int (2 : Int32)), .val (.ref x265), .unset, .unset, .unset, .unset] [(.ref x274)]))
        refine o_ast X274 H at_215 (L' := #[.val (.int p1), .val (.int p2), .val (.int p3), .val (.int s0), .val (.int s1), .val (.int s2), .val (.int (3 : Int32)), .val (.int w0), .val (.int w1), .val (.int w2), .val (.int w3), .val (.int (2 : Int32)), .val (.ref x265), .val (.ref x274), .unset, .unset, .unset]) rfl rfl ?_
        refine o_ild X274 H at_217 rfl ?_
        refine o_ic X274 H at_219 (v := 1) rfl ?_
        refine o_icN X274 H at_220 (flt (by decide : ¬ ((3 : Int32) < (1 : Int32)))).1 ?_
        refine o_ild X274 H at_223 rfl ?_
        refine o_ildN X274 H at_225 rfl ?_
        by_cases hc275 : w0 = s0
        · refine o_icN X274 H at_226 (teq hc275).2 ?_
          refine o_ild X274 H at_229 rfl ?_
          refine o_ic X274 H at_231 (v := 2) rfl ?_
          refine o_icN X274 H at_232 (flt (by decide : ¬ ((3 : Int32) < (2 : Int32)))).1 ?_
          refine o_ild X274 H at_235 rfl ?_
          refine o_ild X274 H at_237 rfl ?_
          by_cases hc276 : w1 = s1
          · refine o_icN X274 H at_239 (teq hc276).2 ?_
            refine o_ild X274 H at_242 rfl ?_
            refine o_ic X274 H at_244 (v := 3) rfl ?_
            refine o_icN X274 H at_245 (flt (by decide : ¬ ((3 : Int32) < (3 : Int32)))).1 ?_
            refine o_ild X274 H at_248 rfl ?_
            refine o_ild X274 H at_250 rfl ?_
            by_cases hc277 : w2 = s2
            · refine o_icN X274 H at_252 (teq hc277).2 ?_
              refine o_ic X274 H at_255 (v := 1) rfl ?_
              refine o_go X274 H at_256 (pc' := 260) (by decide) (by decide) ?_
              refine o_ist X274 H at_260 (L' := #[.val (.int p1), .val (.int p2), .val (.int p3), .val (.int s0), .val (.int s1), .val (.int s2), .val (.int (3 : Int32)), .val (.int w0), .val (.int w1), .val (.int w2), .val (.int w3), .val (.int (2 : Int32)), .val (.ref x265), .val (.ref x274), .val (.int (1 : Int32)), .unset, .unset]) rfl ?_
              refine o_ild X274 H at_262 rfl ?_
              refine o_ifY X274 H at_264 ((if0 _ _).trans (feq (by decide : ¬ ((3 : Int32) = (0 : Int32)))).2) (pc' := 272) (by decide) (by decide) ?_
              refine o_ild X274 H at_272 rfl ?_
              refine o_ic X274 H at_274 (v := 1) rfl ?_
              refine o_icY X274 H at_275 (feq (by decide : ¬ ((3 : Int32) = (1 : Int32)))).2 (pc' := 283) (by decide) (by decide) ?_
              refine o_ild X274 H at_283 rfl ?_
              refine o_ic X274 H at_285 (v := 2) rfl ?_
              refine o_icY X274 H at_286 (feq (by decide : ¬ ((3 : Int32) = (2 : Int32)))).2 (pc' := 294) (by decide) (by decide) ?_
              refine o_ild X274 H at_294 rfl ?_
              refine o_ist X274 H at_296 (L' := #[.val (.int p1), .val (.int p2), .val (.int p3), .val (.int s0), .val (.int s1), .val (.int s2), .val (.int (3 : Int32)), .val (.int w0), .val (.int w1), .val (.int w2), .val (.int w3), .val (.int (2 : Int32)), .val (.ref x265), .val (.ref x274), .val (.int (1 : Int32)), .val (.int w3), .unset]) rfl ?_
              refine o_ild X274 H at_298 rfl ?_
              refine o_ild X274 H at_300 rfl ?_
              refine o_icY X274 H at_302 (tlt (by decide : (2 : Int32) < (3 : Int32))).1 (pc' := 328) (by decide) (by decide) ?_
              refine o_ic X274 H at_328 (v := 0) rfl ?_
              refine o_ist X274 H at_329 (L' := #[.val (.int p1), .val (.int p2), .val (.int p3), .val (.int s0), .val (.int s1), .val (.int s2), .val (.int (3 : Int32)), .val (.int w0), .val (.int w1), .val (.int w2), .val (.int w3), .val (.int (2 : Int32)), .val (.ref x265), .val (.ref x274), .val (.int (1 : Int32)), .val (.int w3), .val (.int (0 : Int32))]) rfl ?_
              exact PT _ _ _ _ _ _ _ _ _ _ _ _ _ _ x274 t274 x265 t265 kt274 kt265 2 3 [w0, w1] [s0, s1, s2] _ rfl rfl (by decide) (by decide) (List.forall_mem_cons.mpr ⟨rw0, List.forall_mem_cons.mpr ⟨rw1, fun _ q => nomatch q⟩⟩) (List.forall_mem_cons.mpr ⟨rs0, List.forall_mem_cons.mpr ⟨rs1, List.forall_mem_cons.mpr ⟨rs2, fun _ q => nomatch q⟩⟩⟩) (Or.inr ⟨rfl, (own_U_2_3 w0 w1 s0 s1 s2)⟩) T274 _ _ _ _ (X274.more (by decide) (by decide)) rfl N274 hS0 hZ hown (CHv.keep K274 sf0 (CHv.keep K265 sf0 CH0)) (CHr.trans (CHr.trans (CHr.refl CH0) (CHr.keep K265 sf0 CH0)) (CHr.keep K274 sf0 (CHv.keep K265 sf0 CH0))) (Nat.le_trans (Nat.le_trans (Nat.zero_le _) K265.1) K274.1) (Nat.le_trans (Nat.le_trans Z0 K265.1) K274.1) ((O.keep K265 all0).keep K274 all0) Eq274 Cq274 Vq274 Aq274 (Eq265.keep K274) (Cq265.keep K274 nin0) (Vq265.keep K274 nin0) (Aq265.keep K274 nin0)
            · refine o_icY X274 H at_252 (feq hc277).2 (pc' := 259) (by decide) (by decide) ?_
              refine o_ic X274 H at_259 (v := 0) rfl ?_
              refine o_ist X274 H at_260 (L' := #[.val (.int p1), .val (.int p2), .val (.int p3), .val (.int s0), .val (.int s1), .val (.int s2), .val (.int (3 : Int32)), .val (.int w0), .val (.int w1), .val (.int w2), .val (.int w3), .val (.int (2 : Int32)), .val (.ref x265), .val (.ref x274), .val (.int (0 : Int32)), .unset, .unset]) rfl ?_
              refine o_ild X274 H at_262 rfl ?_
              refine o_ifY X274 H at_264 ((if0 _ _).trans (feq (by decide : ¬ ((3 : Int32) = (0 : Int32)))).2) (pc' := 272) (by decide) (by decide) ?_
              refine o_ild X274 H at_272 rfl ?_
              refine o_ic X274 H at_274 (v := 1) rfl ?_
              refine o_icY X274 H at_275 (feq (by decide : ¬ ((3 : Int32) = (1 : Int32)))).2 (pc' := 283) (by decide) (by decide) ?_
              refine o_ild X274 H at_283 rfl ?_
              refine o_ic X274 H at_285 (v := 2) rfl ?_
              refine o_icY X274 H at_286 (feq (by decide : ¬ ((3 : Int32) = (2 : Int32)))).2 (pc' := 294) (by decide) (by decide) ?_
              refine o_ild X274 H at_294 rfl ?_
              refine o_ist X274 H at_296 (L' := #[.val (.int p1), .val (.int p2), .val (.int p3), .val (.int s0), .val (.int s1), .val (.int s2), .val (.int (3 : Int32)), .val (.int w0), .val (.int w1), .val (.int w2), .val (.int w3), .val (.int (2 : Int32)), .val (.ref x265), .val (.ref x274), .val (.int (0 : Int32)), .val (.int w3), .unset]) rfl ?_
              refine o_ild X274 H at_298 rfl ?_
              refine o_ild X274 H at_300 rfl ?_
              refine o_icY X274 H at_302 (tlt (by decide : (2 : Int32) < (3 : Int32))).1 (pc' := 328) (by decide) (by decide) ?_
              refine o_ic X274 H at_328 (v := 0) rfl ?_
              refine o_ist X274 H at_329 (L' := #[.val (.int p1), .val (.int p2), .val (.int p3), .val (.int s0), .val (.int s1), .val (.int s2), .val (.int (3 : Int32)), .val (.int w0), .val (.int w1), .val (.int w2), .val (.int w3), .val (.int (2 : Int32)), .val (.ref x265), .val (.ref x274), .val (.int (0 : Int32)), .val (.int w3), .val (.int (0 : Int32))]) rfl ?_
              exact PT _ _ _ _ _ _ _ _ _ _ _ _ _ _ x274 t274 x265 t265 kt274 kt265 2 3 [w0, w1] [s0, s1, s2] _ rfl rfl (by decide) (by decide) (List.forall_mem_cons.mpr ⟨rw0, List.forall_mem_cons.mpr ⟨rw1, fun _ q => nomatch q⟩⟩) (List.forall_mem_cons.mpr ⟨rs0, List.forall_mem_cons.mpr ⟨rs1, List.forall_mem_cons.mpr ⟨rs2, fun _ q => nomatch q⟩⟩⟩) (Or.inr ⟨rfl, (own_U_2_3 w0 w1 s0 s1 s2)⟩) T274 _ _ _ _ (X274.more (by decide) (by decide)) rfl N274 hS0 hZ hown (CHv.keep K274 sf0 (CHv.keep K265 sf0 CH0)) (CHr.trans (CHr.trans (CHr.refl CH0) (CHr.keep K265 sf0 CH0)) (CHr.keep K274 sf0 (CHv.keep K265 sf0 CH0))) (Nat.le_trans (Nat.le_trans (Nat.zero_le _) K265.1) K274.1) (Nat.le_trans (Nat.le_trans Z0 K265.1) K274.1) ((O.keep K265 all0).keep K274 all0) Eq274 Cq274 Vq274 Aq274 (Eq265.keep K274) (Cq265.keep K274 nin0) (Vq265.keep K274 nin0) (Aq265.keep K274 nin0)
          · refine o_icY X274 H at_239 (feq hc276).2 (pc' := 259) (by decide) (by decide) ?_
            refine o_ic X274 H at_259 (v := 0) rfl ?_
            refine o_ist X274 H at_260 (L' := #[.val (.int p1), .val (.int p2), .val (.int p3), .val (.int s0), .val (.int s1), .val (.int s2), .val (.int (3 : Int32)), .val (.int w0), .val (.int w1), .val (.int w2), .val (.int w3), .val (.int (2 : Int32)), .val (.ref x265), .val (.ref x274), .val (.int (0 : Int32)), .unset, .unset]) rfl ?_
            refine o_ild X274 H at_262 rfl ?_
            refine o_ifY X274 H at_264 ((if0 _ _).trans (feq (by decide : ¬ ((3 : Int32) = (0 : Int32)))).2) (pc' := 272) (by decide) (by decide) ?_
            refine o_ild X274 H at_272 rfl ?_
            refine o_ic X274 H at_274 (v := 1) rfl ?_
            refine o_icY X274 H at_275 (feq (by decide : ¬ ((3 : Int32) = (1 : Int32)))).2 (pc' := 283) (by decide) (by decide) ?_
            refine o_ild X274 H at_283 rfl ?_
            refine o_ic X274 H at_285 (v := 2) rfl ?_
            refine o_icY X274 H at_286 (feq (by decide : ¬ ((3 : Int32) = (2 : Int32)))).2 (pc' := 294) (by decide) (by decide) ?_
            refine o_ild X274 H at_294 rfl ?_
            refine o_ist X274 H at_296 (L' := #[.val (.int p1), .val (.int p2), .val (.int p3), .val (.int s0), .val (.int s1), .val (.int s2), .val (.int (3 : Int32)), .val (.int w0), .val (.int w1), .val (.int w2), .val (.int w3), .val (.int (2 : Int32)), .val (.ref x265), .val (.ref x274), .val (.int (0 : Int32)), .val (.int w3), .unset]) rfl ?_
            refine o_ild X274 H at_298 rfl ?_
            refine o_ild X274 H at_300 rfl ?_
            refine o_icY X274 H at_302 (tlt (by decide : (2 : Int32) < (3 : Int32))).1 (pc' := 328) (by decide) (by decide) ?_
            refine o_ic X274 H at_328 (v := 0) rfl ?_
            refine o_ist X274 H at_329 (L' := #[.val (.int p1), .val (.int p2), .val (.int p3), .val (.int s0), .val (.int s1), .val (.int s2), .val (.int (3 : Int32)), .val (.int w0), .val (.int w1), .val (.int w2), .val (.int w3), .val (.int (2 : Int32)), .val (.ref x265), .val (.ref x274), .val (.int (0 : Int32)), .val (.int w3), .val (.int (0 : Int32))]) rfl ?_
            exact PT _ _ _ _ _ _ _ _ _ _ _ _ _ _ x274 t274 x265 t265 kt274 kt265 2 3 [w0, w1] [s0, s1, s2] _ rfl rfl (by decide) (by decide) (List.forall_mem_cons.mpr ⟨rw0, List.forall_mem_cons.mpr ⟨rw1, fun _ q => nomatch q⟩⟩) (List.forall_mem_cons.mpr ⟨rs0, List.forall_mem_cons.mpr ⟨rs1, List.forall_mem_cons.mpr ⟨rs2, fun _ q => nomatch q⟩⟩⟩) (Or.inr ⟨rfl, (own_U_2_3 w0 w1 s0 s1 s2)⟩) T274 _ _ _ _ (X274.more (by decide) (by decide)) rfl N274 hS0 hZ hown (CHv.keep K274 sf0 (CHv.keep K265 sf0 CH0)) (CHr.trans (CHr.trans (CHr.refl CH0) (CHr.keep K265 sf0 CH0)) (CHr.keep K274 sf0 (CHv.keep K265 sf0 CH0))) (Nat.le_trans (Nat.le_trans (Nat.zero_le _) K265.1) K274.1) (Nat.le_trans (Nat.le_trans Z0 K265.1) K274.1) ((O.keep K265 all0).keep K274 all0) Eq274 Cq274 Vq274 Aq274 (Eq265.keep K274) (Cq265.keep K274 nin0) (Vq265.keep K274 nin0) (Aq265.keep K274 nin0)
        · refine o_icY X274 H at_226 (feq hc275).2 (pc' := 259) (by decide) (by decide) ?_
          refine o_ic X274 H at_259 (v := 0) rfl ?_
          refine o_ist X274 H at_260 (L' := #[.val (.int p1), .val (.int p2), .val (.int p3), .val (.int s0), .val (.int s1), .val (.int s2), .val (.int (3 : Int32)), .val (.int w0), .val (.int w1), .val (.int w2), .val (.int w3), .val (.int (2 : Int32)), .val (.ref x265), .val (.ref x274), .val (.int (0 : Int32)), .unset, .unset]) rfl ?_
          refine o_ild X274 H at_262 rfl ?_
          refine o_ifY X274 H at_264 ((if0 _ _).trans (feq (by decide : ¬ ((3 : Int32) = (0 : Int32)))).2) (pc' := 272) (by decide) (by decide) ?_
          refine o_ild X274 H at_272 rfl ?_
          refine o_ic X274 H at_274 (v := 1) rfl ?_
          refine o_icY X274 H at_275 (feq (by decide : ¬ ((3 : Int32) = (1 : Int32)))).2 (pc' := 283) (by decide) (by decide) ?_
          refine o_ild X274 H at_283 rfl ?_
          refine o_ic X274 H at_285 (v := 2) rfl ?_
          refine o_icY X274 H at_286 (feq (by decide : ¬ ((3 : Int32) = (2 : Int32)))).2 (pc' := 294) (by decide) (by decide) ?_
          refine o_ild X274 H at_294 rfl ?_
          refine o_ist X274 H at_296 (L' := #[.val (.int p1), .val (.int p2), .val (.int p3), .val (.int s0), .val (.int s1), .val (.int s2), .val (.int (3 : Int32)), .val (.int w0), .val (.int w1), .val (.int w2), .val (.int w3), .val (.int (2 : Int32)), .val (.ref x265), .val (.ref x274), .val (.int (0 : Int32)), .val (.int w3), .unset]) rfl ?_
          refine o_ild X274 H at_298 rfl ?_
          refine o_ild X274 H at_300 rfl ?_
          refine o_icY X274 H at_302 (tlt (by decide : (2 : Int32) < (3 : Int32))).1 (pc' := 328) (by decide) (by decide) ?_
          refine o_ic X274 H at_328 (v := 0) rfl ?_
          refine o_ist X274 H at_329 (L' := #[.val (.int p1), .val (.int p2), .val (.int p3), .val (.int s0), .val (.int s1), .val (.int s2), .val (.int (3 : Int32)), .val (.int w0), .val (.int w1), .val (.int w2), .val (.int w3), .val (.int (2 : Int32)), .val (.ref x265), .val (.ref x274), .val (.int (0 : Int32)), .val (.int w3), .val (.int (0 : Int32))]) rfl ?_
          exact PT _ _ _ _ _ _ _ _ _ _ _ _ _ _ x274 t274 x265 t265 kt274 kt265 2 3 [w0, w1] [s0, s1, s2] _ rfl rfl (by decide) (by decide) (List.forall_mem_cons.mpr ⟨rw0, List.forall_mem_cons.mpr ⟨rw1, fun _ q => nomatch q⟩⟩) (List.forall_mem_cons.mpr ⟨rs0, List.forall_mem_cons.mpr ⟨rs1, List.forall_mem_cons.mpr ⟨rs2, fun _ q => nomatch q⟩⟩⟩) (Or.inr ⟨rfl, (own_U_2_3 w0 w1 s0 s1 s2)⟩) T274 _ _ _ _ (X274.more (by decide) (by decide)) rfl N274 hS0 hZ hown (CHv.keep K274 sf0 (CHv.keep K265 sf0 CH0)) (CHr.trans (CHr.trans (CHr.refl CH0) (CHr.keep K265 sf0 CH0)) (CHr.keep K274 sf0 (CHv.keep K265 sf0 CH0))) (Nat.le_trans (Nat.le_trans (Nat.zero_le _) K265.1) K274.1) (Nat.le_trans (Nat.le_trans Z0 K265.1) K274.1) ((O.keep K265 all0).keep K274 all0) Eq274 Cq274 Vq274 Aq274 (Eq265.keep K274) (Cq265.keep K274 nin0) (Vq265.keep K274 nin0) (Aq265.keep K274 nin0)
      · rw [hm]
        show own_Fin p e below _ (T265.setTop (mkF m 202 #[.val (.int p1), .val (.int p2), .val (.int p3), .val (.int s0), .val (.int s1), .val (.int s2), .val (.int (3 : Int32)), .val (.int w0), .val (.int w1), .val (.int w2), .val (.int w3), .val (.int (3 : Int32)), .val (.ref x265), .unset, .unset, .unset, .unset] []))
        refine o_ild X265 H at_202 rfl ?_
        refine o_ild X265 H at_204 rfl ?_
        refine o_ild X265 H at_206 rfl ?_
        refine o_ild X265 H at_208 rfl ?_
        refine o_ild X265 H at_210 rfl ?_
        refine o_tc (argsL := [(.int w0), (.int w1), (.int w2), (.int w3), (.int (3 : Int32))]) (rest := []) X265 H hml hZ hown (ow hw 0 rfl) (ow hw 1 rfl) (ow hw 2 rfl) (ow hw 3 rfl) (backOf (W := 0) (rmMk3 l Z a0 hw [] w0 w1 w2 w3 z T265.heap n0 (by exact (Nat.le_trans Z0 K265.1)) rw0 rw1 rw2 rw3 hz (O.keep K265 all0) SC) hZ (ow hw 3 rfl) (ow hw 2 rfl) (by decide) (by decide)) (by decide) rfl pd_24 at_212 rfl rfl rfl rfl rfl (by decide) (by decide) fun _ T278 Lc278 X278 hQ278 => ?_
        obtain ⟨x278, t278, kt278, rfl, N278q, K278, Eq278, Cq278, Vq278, Aq278⟩ := hQ278
        have N278 := Fr.app N265 N278q
        show own_Fin p e below _ (T278.setTop (mkF m 215 #[.val (.int p1), .val (.int p2), .val (.int p3), .val (.int s0), .val (.int s1), .val (.int s2), .val (.int (3 : Int32)), .val (.int w0), .val (.int w1), .val (.int w2), .val (.int w3), .val (.int (3 : Int32)), .val (.ref x265), .unset, .unset, .unset, .unset] [(.ref x278)]))
        refine o_ast X278 H at_215 (L' := #[.val (.int p1), .val (.int p2), .val (.int p3), .val (.int s0), .val (.int s1), .val (.int s2), .val (.int (3 : Int32)), .val (.int w0), .val (.int w1), .val (.int w2), .val (.int w3), .val (.int (3 : Int32)), .val (.ref x265), .val (.ref x278), .unset, .unset, .unset]) rfl rfl ?_
        refine o_ild X278 H at_217 rfl ?_
        refine o_ic X278 H at_219 (v := 1) rfl ?_
        refine o_icN X278 H at_220 (flt (by decide : ¬ ((3 : Int32) < (1 : Int32)))).1 ?_
        refine o_ild X278 H at_223 rfl ?_
        refine o_ildN X278 H at_225 rfl ?_
        by_cases hc279 : w0 = s0
        · refine o_icN X278 H at_226 (teq hc279).2 ?_
          refine o_ild X278 H at_229 rfl ?_
          refine o_ic X278 H at_231 (v := 2) rfl ?_
          refine o_icN X278 H at_232 (flt (by decide : ¬ ((3 : Int32) < (2 : Int32)))).1 ?_
          refine o_ild X278 H at_235 rfl ?_
          refine o_ild X278 H at_237 rfl ?_
          by_cases hc280 : w1 = s1
          · refine o_icN X278 H at_239 (teq hc280).2 ?_
            refine o_ild X278 H at_242 rfl ?_
            refine o_ic X278 H at_244 (v := 3) rfl ?_
            refine o_icN X278 H at_245 (flt (by decide : ¬ ((3 : Int32) < (3 : Int32)))).1 ?_
            refine o_ild X278 H at_248 rfl ?_
            refine o_ild X278 H at_250 rfl ?_
            by_cases hc281 : w2 = s2
            · refine o_icN X278 H at_252 (teq hc281).2 ?_
              refine o_ic X278 H at_255 (v := 1) rfl ?_
              refine o_go X278 H at_256 (pc' := 260) (by decide) (by decide) ?_
              refine o_ist X278 H at_260 (L' := #[.val (.int p1), .val (.int p2), .val (.int p3), .val (.int s0), .val (.int s1), .val (.int s2), .val (.int (3 : Int32)), .val (.int w0), .val (.int w1), .val (.int w2), .val (.int w3), .val (.int (3 : Int32)), .val (.ref x265), .val (.ref x278), .val (.int (1 : Int32)), .unset, .unset]) rfl ?_
              refine o_ild X278 H at_262 rfl ?_
              refine o_ifY X278 H at_264 ((if0 _ _).trans (feq (by decide : ¬ ((3 : Int32) = (0 : Int32)))).2) (pc' := 272) (by decide) (by decide) ?_
              refine o_ild X278 H at_272 rfl ?_
              refine o_ic X278 H at_274 (v := 1) rfl ?_
              refine o_icY X278 H at_275 (feq (by decide : ¬ ((3 : Int32) = (1 : Int32)))).2 (pc' := 283) (by decide) (by decide) ?_
              refine o_ild X278 H at_283 rfl ?_
              refine o_ic X278 H at_285 (v := 2) rfl ?_
              refine o_icY X278 H at_286 (feq (by decide : ¬ ((3 : Int32) = (2 : Int32)))).2 (pc' := 294) (by decide) (by decide) ?_
              refine o_ild X278 H at_294 rfl ?_
              refine o_ist X278 H at_296 (L' := #[.val (.int p1), .val (.int p2), .val (.int p3), .val (.int s0), .val (.int s1), .val (.int s2), .val (.int (3 : Int32)), .val (.int w0), .val (.int w1), .val (.int w2), .val (.int w3), .val (.int (3 : Int32)), .val (.ref x265), .val (.ref x278), .val (.int (1 : Int32)), .val (.int w3), .unset]) rfl ?_
              refine o_ild X278 H at_298 rfl ?_
              refine o_ild X278 H at_300 rfl ?_
              refine o_icN X278 H at_302 (flt (by decide : ¬ ((3 : Int32) < (3 : Int32)))).1 ?_
              refine o_ild X278 H at_305 rfl ?_
              refine o_ifN X278 H at_307 ((if0 _ _).trans (feq (by decide : ¬ ((1 : Int32) = (0 : Int32)))).1) ?_
              refine o_ild X278 H at_310 rfl ?_
              refine o_ild X278 H at_312 rfl ?_
              refine o_icY X278 H at_314 (teq (by decide : (3 : Int32) = (3 : Int32))).1 (pc' := 324) (by decide) (by decide) ?_
              refine o_ic X278 H at_324 (v := 1) rfl ?_
              refine o_go X278 H at_325 (pc' := 329) (by decide) (by decide) ?_
              refine o_ist X278 H at_329 (L' := #[.val (.int p1), .val (.int p2), .val (.int p3), .val (.int s0), .val (.int s1), .val (.int s2), .val (.int (3 : Int32)), .val (.int w0), .val (.int w1), .val (.int w2), .val (.int w3), .val (.int (3 : Int32)), .val (.ref x265), .val (.ref x278), .val (.int (1 : Int32)), .val (.int w3), .val (.int (1 : Int32))]) rfl ?_
              exact PT _ _ _ _ _ _ _ _ _ _ _ _ _ _ x278 t278 x265 t265 kt278 kt265 3 3 [w0, w1, w2] [s0, s1, s2] _ rfl rfl (by decide) (by decide) (List.forall_mem_cons.mpr ⟨rw0, List.forall_mem_cons.mpr ⟨rw1, List.forall_mem_cons.mpr ⟨rw2, fun _ q => nomatch q⟩⟩⟩) (List.forall_mem_cons.mpr ⟨rs0, List.forall_mem_cons.mpr ⟨rs1, List.forall_mem_cons.mpr ⟨rs2, fun _ q => nomatch q⟩⟩⟩) (Or.inl ⟨rfl, (own_U_3_3 w0 w1 w2 s0 s1 s2).mpr ⟨hc279, hc280, hc281⟩⟩) T278 _ _ _ _ (X278.more (by decide) (by decide)) rfl N278 hS0 hZ hown (CHv.keep K278 sf0 (CHv.keep K265 sf0 CH0)) (CHr.trans (CHr.trans (CHr.refl CH0) (CHr.keep K265 sf0 CH0)) (CHr.keep K278 sf0 (CHv.keep K265 sf0 CH0))) (Nat.le_trans (Nat.le_trans (Nat.zero_le _) K265.1) K278.1) (Nat.le_trans (Nat.le_trans Z0 K265.1) K278.1) ((O.keep K265 all0).keep K278 all0) Eq278 Cq278 Vq278 Aq278 (Eq265.keep K278) (Cq265.keep K278 nin0) (Vq265.keep K278 nin0) (Aq265.keep K278 nin0)
            · refine o_icY X278 H at_252 (feq hc281).2 (pc' := 259) (by decide) (by decide) ?_
              refine o_ic X278 H at_259 (v := 0) rfl ?_
              refine o_ist X278 H at_260 (L' := #[.val (.int p1), .val (.int p2), .val (.int p3), .val (.int s0), .val (.int s1), .val (.int s2), .val (.int (3 : Int32)), .val (.int w0), .val (.int w1), .val (.int w2), .val (.int w3), .val (.int (3 : Int32)), .val (.ref x265), .val (.ref x278), .val (.int (0 : Int32)), .unset, .unset]) rfl ?_
              refine o_ild X278 H at_262 rfl ?_
              refine o_ifY X278 H at_264 ((if0 _ _).trans (feq (by decide : ¬ ((3 : Int32) = (0 : Int32)))).2) (pc' := 272) (by decide) (by decide) ?_
              refine o_ild X278 H at_272 rfl ?_
              refine o_ic X278 H at_274 (v := 1) rfl ?_
              refine o_icY X278 H at_275 (feq (by decide : ¬ ((3 : Int32) = (1 : Int32)))).2 (pc' := 283) (by decide) (by decide) ?_
              refine o_ild X278 H at_283 rfl ?_
              refine o_ic X278 H at_285 (v := 2) rfl ?_
              refine o_icY X278 H at_286 (feq (by decide : ¬ ((3 : Int32) = (2 : Int32)))).2 (pc' := 294) (by decide) (by decide) ?_
              refine o_ild X278 H at_294 rfl ?_
              refine o_ist X278 H at_296 (L' := #[.val (.int p1), .val (.int p2), .val (.int p3), .val (.int s0), .val (.int s1), .val (.int s2), .val (.int (3 : Int32)), .val (.int w0), .val (.int w1), .val (.int w2), .val (.int w3), .val (.int (3 : Int32)), .val (.ref x265), .val (.ref x278), .val (.int (0 : Int32)), .val (.int w3), .unset]) rfl ?_
              refine o_ild X278 H at_298 rfl ?_
              refine o_ild X278 H at_300 rfl ?_
              refine o_icN X278 H at_302 (flt (by decide : ¬ ((3 : Int32) < (3 : Int32)))).1 ?_
              refine o_ild X278 H at_305 rfl ?_
              refine o_ifY X278 H at_307 ((if0 _ _).trans (teq (by decide : (0 : Int32) = (0 : Int32))).1) (pc' := 328) (by decide) (by decide) ?_
              refine o_ic X278 H at_328 (v := 0) rfl ?_
              refine o_ist X278 H at_329 (L' := #[.val (.int p1), .val (.int p2), .val (.int p3), .val (.int s0), .val (.int s1), .val (.int s2), .val (.int (3 : Int32)), .val (.int w0), .val (.int w1), .val (.int w2), .val (.int w3), .val (.int (3 : Int32)), .val (.ref x265), .val (.ref x278), .val (.int (0 : Int32)), .val (.int w3), .val (.int (0 : Int32))]) rfl ?_
              exact PT _ _ _ _ _ _ _ _ _ _ _ _ _ _ x278 t278 x265 t265 kt278 kt265 3 3 [w0, w1, w2] [s0, s1, s2] _ rfl rfl (by decide) (by decide) (List.forall_mem_cons.mpr ⟨rw0, List.forall_mem_cons.mpr ⟨rw1, List.forall_mem_cons.mpr ⟨rw2, fun _ q => nomatch q⟩⟩⟩) (List.forall_mem_cons.mpr ⟨rs0, List.forall_mem_cons.mpr ⟨rs1, List.forall_mem_cons.mpr ⟨rs2, fun _ q => nomatch q⟩⟩⟩) (Or.inr ⟨rfl, fun u => absurd (((own_U_3_3 w0 w1 w2 s0 s1 s2).mp u).2.2) hc281⟩) T278 _ _ _ _ (X278.more (by decide) (by decide)) rfl N278 hS0 hZ hown (CHv.keep K278 sf0 (CHv.keep K265 sf0 CH0)) (CHr.trans (CHr.trans (CHr.refl CH0) (CHr.keep K265 sf0 CH0)) (CHr.keep K278 sf0 (CHv.keep K265 sf0 CH0))) (Nat.le_trans (Nat.le_trans (Nat.zero_le _) K265.1) K278.1) (Nat.le_trans (Nat.le_trans Z0 K265.1) K278.1) ((O.keep K265 all0).keep K278 all0) Eq278 Cq278 Vq278 Aq278 (Eq265.keep K278) (Cq265.keep K278 nin0) (Vq265.keep K278 nin0) (Aq265.keep K278 nin0)
          · refine o_icY X278 H at_239 (feq hc280).2 (pc' := 259) (by decide) (by decide) ?_
            refine o_ic X278 H at_259 (v := 0) rfl ?_
            refine o_ist X278 H at_260 (L' := #[.val (.int p1), .val (.int p2), .val (.int p3), .val (.int s0), .val (.int s1), .val (.int s2), .val (.int (3 : Int32)), .val (.int w0), .val (.int w1), .val (.int w2), .val (.int w3), .val (.int (3 : Int32)), .val (.ref x265), .val (.ref x278), .val (.int (0 : Int32)), .unset, .unset]) rfl ?_
            refine o_ild X278 H at_262 rfl ?_
            refine o_ifY X278 H at_264 ((if0 _ _).trans (feq (by decide : ¬ ((3 : Int32) = (0 : Int32)))).2) (pc' := 272) (by decide) (by decide) ?_
            refine o_ild X278 H at_272 rfl ?_
            refine o_ic X278 H at_274 (v := 1) rfl ?_
            refine o_icY X278 H at_275 (feq (by decide : ¬ ((3 : Int32) = (1 : Int32)))).2 (pc' := 283) (by decide) (by decide) ?_
            refine o_ild X278 H at_283 rfl ?_
            refine o_ic X278 H at_285 (v := 2) rfl ?_
            refine o_icY X278 H at_286 (feq (by decide : ¬ ((3 : Int32) = (2 : Int32)))).2 (pc' := 294) (by decide) (by decide) ?_
            refine o_ild X278 H at_294 rfl ?_
            refine o_ist X278 H at_296 (L' := #[.val (.int p1), .val (.int p2), .val (.int p3), .val (.int s0), .val (.int s1), .val (.int s2), .val (.int (3 : Int32)), .val (.int w0), .val (.int w1), .val (.int w2), .val (.int w3), .val (.int (3 : Int32)), .val (.ref x265), .val (.ref x278), .val (.int (0 : Int32)), .val (.int w3), .unset]) rfl ?_
            refine o_ild X278 H at_298 rfl ?_
            refine o_ild X278 H at_300 rfl ?_
            refine o_icN X278 H at_302 (flt (by decide : ¬ ((3 : Int32) < (3 : Int32)))).1 ?_
            refine o_ild X278 H at_305 rfl ?_
            refine o_ifY X278 H at_307 ((if0 _ _).trans (teq (by decide : (0 : Int32) = (0 : Int32))).1) (pc' := 328) (by decide) (by decide) ?_
            refine o_ic X278 H at_328 (v := 0) rfl ?_
            refine o_ist X278 H at_329 (L' := #[.val (.int p1), .val (.int p2), .val (.int p3), .val (.int s0), .val (.int s1), .val (.int s2), .val (.int (3 : Int32)), .val (.int w0), .val (.int w1), .val (.int w2), .val (.int w3), .val (.int (3 : Int32)), .val (.ref x265), .val (.ref x278), .val (.int (0 : Int32)), .val (.int w3), .val (.int (0 : Int32))]) rfl ?_
            exact PT _ _ _ _ _ _ _ _ _ _ _ _ _ _ x278 t278 x265 t265 kt278 kt265 3 3 [w0, w1, w2] [s0, s1, s2] _ rfl rfl (by decide) (by decide) (List.forall_mem_cons.mpr ⟨rw0, List.forall_mem_cons.mpr ⟨rw1, List.forall_mem_cons.mpr ⟨rw2, fun _ q => nomatch q⟩⟩⟩) (List.forall_mem_cons.mpr ⟨rs0, List.forall_mem_cons.mpr ⟨rs1, List.forall_mem_cons.mpr ⟨rs2, fun _ q => nomatch q⟩⟩⟩) (Or.inr ⟨rfl, fun u => absurd (((own_U_3_3 w0 w1 w2 s0 s1 s2).mp u).2.1) hc280⟩) T278 _ _ _ _ (X278.more (by decide) (by decide)) rfl N278 hS0 hZ hown (CHv.keep K278 sf0 (CHv.keep K265 sf0 CH0)) (CHr.trans (CHr.trans (CHr.refl CH0) (CHr.keep K265 sf0 CH0)) (CHr.keep K278 sf0 (CHv.keep K265 sf0 CH0))) (Nat.le_trans (Nat.le_trans (Nat.zero_le _) K265.1) K278.1) (Nat.le_trans (Nat.le_trans Z0 K265.1) K278.1) ((O.keep K265 all0).keep K278 all0) Eq278 Cq278 Vq278 Aq278 (Eq265.keep K278) (Cq265.keep K278 nin0) (Vq265.keep K278 nin0) (Aq265.keep K278 nin0)
        · refine o_icY X278 H at_226 (feq hc279).2 (pc' := 259) (by decide) (by decide) ?_
          refine o_ic X278 H at_259 (v := 0) rfl ?_
          refine o_ist X278 H at_260 (L' := #[.val (.int p1), .val (.int p2), .val (.int p3), .val (.int s0), .val (.int s1), .val (.int s2), .val (.int (3 : Int32)), .val (.int w0), .val (.int w1), .val (.int w2), .val (.int w3), .val (.int (3 : Int32)), .val (.ref x265), .val (.ref x278), .val (.int (0 : Int32)), .unset, .unset]) rfl ?_
          refine o_ild X278 H at_262 rfl ?_
          refine o_ifY X278 H at_264 ((if0 _ _).trans (feq (by decide : ¬ ((3 : Int32) = (0 : Int32)))).2) (pc' := 272) (by decide) (by decide) ?_
          refine o_ild X278 H at_272 rfl ?_
          refine o_ic X278 H at_274 (v := 1) rfl ?_
          refine o_icY X278 H at_275 (feq (by decide : ¬ ((3 : Int32) = (1 : Int32)))).2 (pc' := 283) (by decide) (by decide) ?_
          refine o_ild X278 H at_283 rfl ?_
          refine o_ic X278 H at_285 (v := 2) rfl ?_
          refine o_icY X278 H at_286 (feq (by decide : ¬ ((3 : Int32) = (2 : Int32)))).2 (pc' := 294) (by decide) (by decide) ?_
          refine o_ild X278 H at_294 rfl ?_
          refine o_ist X278 H at_296 (L' := #[.val (.int p1), .val (.int p2), .val (.int p3), .val (.int s0), .val (.int s1), .val (.int s2), .val (.int (3 : Int32)), .val (.int w0), .val (.int w1), .val (.int w2), .val (.int w3), .val (.int (3 : Int32)), .val (.ref x265), .val (.ref x278), .val (.int (0 : Int32)), .val (.int w3), .unset]) rfl ?_
          refine o_ild X278 H at_298 rfl ?_
          refine o_ild X278 H at_300 rfl ?_
          refine o_icN X278 H at_302 (flt (by decide : ¬ ((3 : Int32) < (3 : Int32)))).1 ?_
          refine o_ild X278 H at_305 rfl ?_
          refine o_ifY X278 H at_307 ((if0 _ _).trans (teq (by decide : (0 : Int32) = (0 : Int32))).1) (pc' := 328) (by decide) (by decide) ?_
          refine o_ic X278 H at_328 (v := 0) rfl ?_
          refine o_ist X278 H at_329 (L' := #[.val (.int p1), .val (.int p2), .val (.int p3), .val (.int s0), .val (.int s1), .val (.int s2), .val (.int (3 : Int32)), .val (.int w0), .val (.int w1), .val (.int w2), .val (.int w3), .val (.int (3 : Int32)), .val (.ref x265), .val (.ref x278), .val (.int (0 : Int32)), .val (.int w3), .val (.int (0 : Int32))]) rfl ?_
          exact PT _ _ _ _ _ _ _ _ _ _ _ _ _ _ x278 t278 x265 t265 kt278 kt265 3 3 [w0, w1, w2] [s0, s1, s2] _ rfl rfl (by decide) (by decide) (List.forall_mem_cons.mpr ⟨rw0, List.forall_mem_cons.mpr ⟨rw1, List.forall_mem_cons.mpr ⟨rw2, fun _ q => nomatch q⟩⟩⟩) (List.forall_mem_cons.mpr ⟨rs0, List.forall_mem_cons.mpr ⟨rs1, List.forall_mem_cons.mpr ⟨rs2, fun _ q => nomatch q⟩⟩⟩) (Or.inr ⟨rfl, fun u => absurd (((own_U_3_3 w0 w1 w2 s0 s1 s2).mp u).1) hc279⟩) T278 _ _ _ _ (X278.more (by decide) (by decide)) rfl N278 hS0 hZ hown (CHv.keep K278 sf0 (CHv.keep K265 sf0 CH0)) (CHr.trans (CHr.trans (CHr.refl CH0) (CHr.keep K265 sf0 CH0)) (CHr.keep K278 sf0 (CHv.keep K265 sf0 CH0))) (Nat.le_trans (Nat.le_trans (Nat.zero_le _) K265.1) K278.1) (Nat.le_trans (Nat.le_trans Z0 K265.1) K278.1) ((O.keep K265 all0).keep K278 all0) Eq278 Cq278 Vq278 Aq278 (Eq265.keep K278) (Cq265.keep K278 nin0) (Vq265.keep K278 nin0) (Aq265.keep K278 nin0)
      · rw [hm]
        show own_Fin p e below _ (T265.setTop (mkF m 202 #[.val (.int p1), .val (.int p2), .val (.int p3), .val (.int s0), .val (.int s1), .val (.int s2), .val (.int (3 : Int32)), .val (.int w0), .val (.int w1), .val (.int w2), .val (.int w3), .val (.int (4 : Int32)), .val (.ref x265), .unset, .unset, .unset, .unset] []))
        refine o_ild X265 H at_202 rfl ?_
        refine o_ild X265 H at_204 rfl ?_
        refine o_ild X265 H at_206 rfl ?_
        refine o_ild X265 H at_208 rfl ?_
        refine o_ild X265 H at_210 rfl ?_
        refine o_tc (argsL := [(.int w0), (.int w1), (.int w2), (.int w3), (.int (4 : Int32))]) (rest := []) X265 H hml hZ hown (ow hw 0 rfl) (ow hw 1 rfl) (ow hw 2 rfl) (ow hw 3 rfl) (backOf (W := 0) (rmMk4 l Z a0 hw [] w0 w1 w2 w3 z T265.heap n0 (by exact (Nat.le_trans Z0 K265.1)) rw0 rw1 rw2 rw3 hz (O.keep K265 all0) SC) hZ (ow hw 3 rfl) (ow hw 2 rfl) (by decide) (by decide)) (by decide) rfl pd_24 at_212 rfl rfl rfl rfl rfl (by decide) (by decide) fun _ T282 Lc282 X282 hQ282 => ?_
        obtain ⟨x282, t282, kt282, rfl, N282q, K282, Eq282, Cq282, Vq282, Aq282⟩ := hQ282
        have N282 := Fr.app N265 N282q
        show own_Fin p e below _ (T282.setTop (mkF m 215 #[.val (.int p1), .val (.int p2), .val (.int p3), .val (.int s0), .val (.int s1), .val (.int s2), .val (.int (3 : Int32)), .val (.int w0), .val (.int w1), .val (.int w2), .val (.int w3), .val (.int (4 : Int32)), .val (.ref x265), .unset, .unset, .unset, .unset] [(.ref x282)]))
        refine o_ast X282 H at_215 (L' := #[.val (.int p1), .val (.int p2), .val (.int p3), .val (.int s0), .val (.int s1), .val (.int s2), .val (.int (3 : Int32)), .val (.int w0), .val (.int w1), .val (.int w2), .val (.int w3), .val (.int (4 : Int32)), .val (.ref x265), .val (.ref x282), .unset, .unset, .unset]) rfl rfl ?_
        refine o_ild X282 H at_217 rfl ?_
        refine o_ic X282 H at_219 (v := 1) rfl ?_
        refine o_icN X282 H at_220 (flt (by decide : ¬ ((3 : Int32) < (1 : Int32)))).1 ?_
        refine o_ild X282 H at_223 rfl ?_
        refine o_ildN X282 H at_225 rfl ?_
        by_cases hc283 : w0 = s0
        · refine o_icN X282 H at_226 (teq hc283).2 ?_
          refine o_ild X282 H at_229 rfl ?_
          refine o_ic X282 H at_231 (v := 2) rfl ?_
          refine o_icN X282 H at_232 (flt (by decide : ¬ ((3 : Int32) < (2 : Int32)))).1 ?_
          refine o_ild X282 H at_235 rfl ?_
          refine o_ild X282 H at_237 rfl ?_
          by_cases hc284 : w1 = s1
          · refine o_icN X282 H at_239 (teq hc284).2 ?_
            refine o_ild X282 H at_242 rfl ?_
            refine o_ic X282 H at_244 (v := 3) rfl ?_
            refine o_icN X282 H at_245 (flt (by decide : ¬ ((3 : Int32) < (3 : Int32)))).1 ?_
            refine o_ild X282 H at_248 rfl ?_
            refine o_ild X282 H at_250 rfl ?_
            by_cases hc285 : w2 = s2
            · refine o_icN X282 H at_252 (teq hc285).2 ?_
              refine o_ic X282 H at_255 (v := 1) rfl ?_
              refine o_go X282 H at_256 (pc' := 260) (by decide) (by decide) ?_
              refine o_ist X282 H at_260 (L' := #[.val (.int p1), .val (.int p2), .val (.int p3), .val (.int s0), .val (.int s1), .val (.int s2), .val (.int (3 : Int32)), .val (.int w0), .val (.int w1), .val (.int w2), .val (.int w3), .val (.int (4 : Int32)), .val (.ref x265), .val (.ref x282), .val (.int (1 : Int32)), .unset, .unset]) rfl ?_
              refine o_ild X282 H at_262 rfl ?_
              refine o_ifY X282 H at_264 ((if0 _ _).trans (feq (by decide : ¬ ((3 : Int32) = (0 : Int32)))).2) (pc' := 272) (by decide) (by decide) ?_
              refine o_ild X282 H at_272 rfl ?_
              refine o_ic X282 H at_274 (v := 1) rfl ?_
              refine o_icY X282 H at_275 (feq (by decide : ¬ ((3 : Int32) = (1 : Int32)))).2 (pc' := 283) (by decide) (by decide) ?_
              refine o_ild X282 H at_283 rfl ?_
              refine o_ic X282 H at_285 (v := 2) rfl ?_
              refine o_icY X282 H at_286 (feq (by decide : ¬ ((3 : Int32) = (2 : Int32)))).2 (pc' := 294) (by decide) (by decide) ?_
              refine o_ild X282 H at_294 rfl ?_
              refine o_ist X282 H at_296 (L' := #[.val (.int p1), .val (.int p2), .val (.int p3), .val (.int s0), .val (.int s1), .val (.int s2), .val (.int (3 : Int32)), .val (.int w0), .val (.int w1), .val (.int w2), .val (.int w3), .val (.int (4 : Int32)), .val (.ref x265), .val (.ref x282), .val (.int (1 : Int32)), .val (.int w3), .unset]) rfl ?_
              refine o_ild X282 H at_298 rfl ?_
              refine o_ild X282 H at_300 rfl ?_
              refine o_icN X282 H at_302 (flt (by decide : ¬ ((4 : Int32) < (3 : Int32)))).1 ?_
              refine o_ild X282 H at_305 rfl ?_
              refine o_ifN X282 H at_307 ((if0 _ _).trans (feq (by decide : ¬ ((1 : Int32) = (0 : Int32)))).1) ?_
              refine o_ild X282 H at_310 rfl ?_
              refine o_ild X282 H at_312 rfl ?_
              refine o_icN X282 H at_314 (feq (by decide : ¬ ((4 : Int32) = (3 : Int32)))).1 ?_
              refine o_ild X282 H at_317 rfl ?_
              refine o_bi X282 H at_319 (v := 40) rfl ?_
              by_cases hc286 : w3 = (40 : Int32)
              · refine o_icN X282 H at_321 (teq hc286).2 ?_
                refine o_ic X282 H at_324 (v := 1) rfl ?_
                refine o_go X282 H at_325 (pc' := 329) (by decide) (by decide) ?_
                refine o_ist X282 H at_329 (L' := #[.val (.int p1), .val (.int p2), .val (.int p3), .val (.int s0), .val (.int s1), .val (.int s2), .val (.int (3 : Int32)), .val (.int w0), .val (.int w1), .val (.int w2), .val (.int w3), .val (.int (4 : Int32)), .val (.ref x265), .val (.ref x282), .val (.int (1 : Int32)), .val (.int w3), .val (.int (1 : Int32))]) rfl ?_
                exact PT _ _ _ _ _ _ _ _ _ _ _ _ _ _ x282 t282 x265 t265 kt282 kt265 4 3 [w0, w1, w2, w3] [s0, s1, s2] _ rfl rfl (by decide) (by decide) (List.forall_mem_cons.mpr ⟨rw0, List.forall_mem_cons.mpr ⟨rw1, List.forall_mem_cons.mpr ⟨rw2, List.forall_mem_cons.mpr ⟨rw3, fun _ q => nomatch q⟩⟩⟩⟩) (List.forall_mem_cons.mpr ⟨rs0, List.forall_mem_cons.mpr ⟨rs1, List.forall_mem_cons.mpr ⟨rs2, fun _ q => nomatch q⟩⟩⟩) (Or.inl ⟨rfl, (own_U_4_3 w0 w1 w2 w3 s0 s1 s2).mpr ⟨hc283, hc284, hc285, hc286⟩⟩) T282 _ _ _ _ (X282.more (by decide) (by decide)) rfl N282 hS0 hZ hown (CHv.keep K282 sf0 (CHv.keep K265 sf0 CH0)) (CHr.trans (CHr.trans (CHr.refl CH0) (CHr.keep K265 sf0 CH0)) (CHr.keep K282 sf0 (CHv.keep K265 sf0 CH0))) (Nat.le_trans (Nat.le_trans (Nat.zero_le _) K265.1) K282.1) (Nat.le_trans (Nat.le_trans Z0 K265.1) K282.1) ((O.keep K265 all0).keep K282 all0) Eq282 Cq282 Vq282 Aq282 (Eq265.keep K282) (Cq265.keep K282 nin0) (Vq265.keep K282 nin0) (Aq265.keep K282 nin0)
              · refine o_icY X282 H at_321 (feq hc286).2 (pc' := 328) (by decide) (by decide) ?_
                refine o_ic X282 H at_328 (v := 0) rfl ?_
                refine o_ist X282 H at_329 (L' := #[.val (.int p1), .val (.int p2), .val (.int p3), .val (.int s0), .val (.int s1), .val (.int s2), .val (.int (3 : Int32)), .val (.int w0), .val (.int w1), .val (.int w2), .val (.int w3), .val (.int (4 : Int32)), .val (.ref x265), .val (.ref x282), .val (.int (1 : Int32)), .val (.int w3), .val (.int (0 : Int32))]) rfl ?_
                exact PT _ _ _ _ _ _ _ _ _ _ _ _ _ _ x282 t282 x265 t265 kt282 kt265 4 3 [w0, w1, w2, w3] [s0, s1, s2] _ rfl rfl (by decide) (by decide) (List.forall_mem_cons.mpr ⟨rw0, List.forall_mem_cons.mpr ⟨rw1, List.forall_mem_cons.mpr ⟨rw2, List.forall_mem_cons.mpr ⟨rw3, fun _ q => nomatch q⟩⟩⟩⟩) (List.forall_mem_cons.mpr ⟨rs0, List.forall_mem_cons.mpr ⟨rs1, List.forall_mem_cons.mpr ⟨rs2, fun _ q => nomatch q⟩⟩⟩) (Or.inr ⟨rfl, fun u => absurd (((own_U_4_3 w0 w1 w2 w3 s0 s1 s2).mp u).2.2.2) hc286⟩) T282 _ _ _ _ (X282.more (by decide) (by decide)) rfl N282 hS0 hZ hown (CHv.keep K282 sf0 (CHv.keep K265 sf0 CH0)) (CHr.trans (CHr.trans (CHr.refl CH0) (CHr.keep K265 sf0 CH0)) (CHr.keep K282 sf0 (CHv.keep K265 sf0 CH0))) (Nat.le_trans (Nat.le_trans (Nat.zero_le _) K265.1) K282.1) (Nat.le_trans (Nat.le_trans Z0 K265.1) K282.1) ((O.keep K265 all0).keep K282 all0) Eq282 Cq282 Vq282 Aq282 (Eq265.keep K282) (Cq265.keep K282 nin0) (Vq265.keep K282 nin0) (Aq265.keep K282 nin0)
            · refine o_icY X282 H at_252 (feq hc285).2 (pc' := 259) (by decide) (by decide) ?_
              refine o_ic X282 H at_259 (v := 0) rfl ?_
              refine o_ist X282 H at_260 (L' := #[.val (.int p1), .val (.int p2), .val (.int p3), .val (.int s0), .val (.int s1), .val (.int s2), .val (.int (3 : Int32)), .val (.int w0), .val (.int w1), .val (.int w2), .val (.int w3), .val (.int (4 : Int32)), .val (.ref x265), .val (.ref x282), .val (.int (0 : Int32)), .unset, .unset]) rfl ?_
              refine o_ild X282 H at_262 rfl ?_
              refine o_ifY X282 H at_264 ((if0 _ _).trans (feq (by decide : ¬ ((3 : Int32) = (0 : Int32)))).2) (pc' := 272) (by decide) (by decide) ?_
              refine o_ild X282 H at_272 rfl ?_
              refine o_ic X282 H at_274 (v := 1) rfl ?_
              refine o_icY X282 H at_275 (feq (by decide : ¬ ((3 : Int32) = (1 : Int32)))).2 (pc' := 283) (by decide) (by decide) ?_
              refine o_ild X282 H at_283 rfl ?_
              refine o_ic X282 H at_285 (v := 2) rfl ?_
              refine o_icY X282 H at_286 (feq (by decide : ¬ ((3 : Int32) = (2 : Int32)))).2 (pc' := 294) (by decide) (by decide) ?_
              refine o_ild X282 H at_294 rfl ?_
              refine o_ist X282 H at_296 (L' := #[.val (.int p1), .val (.int p2), .val (.int p3), .val (.int s0), .val (.int s1), .val (.int s2), .val (.int (3 : Int32)), .val (.int w0), .val (.int w1), .val (.int w2), .val (.int w3), .val (.int (4 : Int32)), .val (.ref x265), .val (.ref x282), .val (.int (0 : Int32)), .val (.int w3), .unset]) rfl ?_
              refine o_ild X282 H at_298 rfl ?_
              refine o_ild X282 H at_300 rfl ?_
              refine o_icN X282 H at_302 (flt (by decide : ¬ ((4 : Int32) < (3 : Int32)))).1 ?_
              refine o_ild X282 H at_305 rfl ?_
              refine o_ifY X282 H at_307 ((if0 _ _).trans (teq (by decide : (0 : Int32) = (0 : Int32))).1) (pc' := 328) (by decide) (by decide) ?_
              refine o_ic X282 H at_328 (v := 0) rfl ?_
              refine o_ist X282 H at_329 (L' := #[.val (.int p1), .val (.int p2), .val (.int p3), .val (.int s0), .val (.int s1), .val (.int s2), .val (.int (3 : Int32)), .val (.int w0), .val (.int w1), .val (.int w2), .val (.int w3), .val (.int (4 : Int32)), .val (.ref x265), .val (.ref x282), .val (.int (0 : Int32)), .val (.int w3), .val (.int (0 : Int32))]) rfl ?_
              exact PT _ _ _ _ _ _ _ _ _ _ _ _ _ _ x282 t282 x265 t265 kt282 kt265 4 3 [w0, w1, w2, w3] [s0, s1, s2] _ rfl rfl (by decide) (by decide) (List.forall_mem_cons.mpr ⟨rw0, List.forall_mem_cons.mpr ⟨rw1, List.forall_mem_cons.mpr ⟨rw2, List.forall_mem_cons.mpr ⟨rw3, fun _ q => nomatch q⟩⟩⟩⟩) (List.forall_mem_cons.mpr ⟨rs0, List.forall_mem_cons.mpr ⟨rs1, List.forall_mem_cons.mpr ⟨rs2, fun _ q => nomatch q⟩⟩⟩) (Or.inr ⟨rfl, fun u => absurd (((own_U_4_3 w0 w1 w2 w3 s0 s1 s2).mp u).2.2.1) hc285⟩) T282 _ _ _ _ (X282.more (by decide) (by decide)) rfl N282 hS0 hZ hown (CHv.keep K282 sf0 (CHv.keep K265 sf0 CH0)) (CHr.trans (CHr.trans (CHr.refl CH0) (CHr.keep K265 sf0 CH0)) (CHr.keep K282 sf0 (CHv.keep K265 sf0 CH0))) (Nat.le_trans (Nat.le_trans (Nat.zero_le _) K265.1) K282.1) (Nat.le_trans (Nat.le_trans Z0 K265.1) K282.1) ((O.keep K265 all0).keep K282 all0) Eq282 Cq282 Vq282 Aq282 (Eq265.keep K282) (Cq265.keep K282 nin0) (Vq265.keep K282 nin0) (Aq265.keep K282 nin0)
          · refine o_icY X282 H at_239 (feq hc284).2 (pc' := 259) (by decide) (by decide) ?_
            refine o_ic X282 H at_259 (v := 0) rfl ?_
            refine o_ist X282 H at_260 (L' := #[.val (.int p1), .val (.int p2), .val (.int p3), .val (.int s0), .val (.int s1), .val (.int s2), .val (.int (3 : Int32)), .val (.int w0), .val (.int w1), .val (.int w2), .val (.int w3), .val (.int (4 : Int32)), .val (.ref x265), .val (.ref x282), .val (.int (0 : Int32)), .unset, .unset]) rfl ?_
            refine o_ild X282 H at_262 rfl ?_
            refine o_ifY X282 H at_264 ((if0 _ _).trans (feq (by decide : ¬ ((3 : Int32) = (0 : Int32)))).2) (pc' := 272) (by decide) (by decide) ?_
            refine o_ild X282 H at_272 rfl ?_
            refine o_ic X282 H at_274 (v := 1) rfl ?_
            refine o_icY X282 H at_275 (feq (by decide : ¬ ((3 : Int32) = (1 : Int32)))).2 (pc' := 283) (by decide) (by decide) ?_
            refine o_ild X282 H at_283 rfl ?_
            refine o_ic X282 H at_285 (v := 2) rfl ?_
            refine o_icY X282 H at_286 (feq (by decide : ¬ ((3 : Int32) = (2 : Int32)))).2 (pc' := 294) (by decide) (by decide) ?_
            refine o_ild X282 H at_294 rfl ?_
            refine o_ist X282 H at_296 (L' := #[.val (.int p1), .val (.int p2), .val (.int p3), .val (.int s0), .val (.int s1), .val (.int s2), .val (.int (3 : Int32)), .val (.int w0), .val (.int w1), .val (.int w2), .val (.int w3), .val (.int (4 : Int32)), .val (.ref x265), .val (.ref x282), .val (.int (0 : Int32)), .val (.int w3), .unset]) rfl ?_
            refine o_ild X282 H at_298 rfl ?_
            refine o_ild X282 H at_300 rfl ?_
            refine o_icN X282 H at_302 (flt (by decide : ¬ ((4 : Int32) < (3 : Int32)))).1 ?_
            refine o_ild X282 H at_305 rfl ?_
            refine o_ifY X282 H at_307 ((if0 _ _).trans (teq (by decide : (0 : Int32) = (0 : Int32))).1) (pc' := 328) (by decide) (by decide) ?_
            refine o_ic X282 H at_328 (v := 0) rfl ?_
            refine o_ist X282 H at_329 (L' := #[.val (.int p1), .val (.int p2), .val (.int p3), .val (.int s0), .val (.int s1), .val (.int s2), .val (.int (3 : Int32)), .val (.int w0), .val (.int w1), .val (.int w2), .val (.int w3), .val (.int (4 : Int32)), .val (.ref x265), .val (.ref x282), .val (.int (0 : Int32)), .val (.int w3), .val (.int (0 : Int32))]) rfl ?_
            exact PT _ _ _ _ _ _ _ _ _ _ _ _ _ _ x282 t282 x265 t265 kt282 kt265 4 3 [w0, w1, w2, w3] [s0, s1, s2] _ rfl rfl (by decide) (by decide) (List.forall_mem_cons.mpr ⟨rw0, List.forall_mem_cons.mpr ⟨rw1, List.forall_mem_cons.mpr ⟨rw2, List.forall_mem_cons.mpr ⟨rw3, fun _ q => nomatch q⟩⟩⟩⟩) (List.forall_mem_cons.mpr ⟨rs0, List.forall_mem_cons.mpr ⟨rs1, List.forall_mem_cons.mpr ⟨rs2, fun _ q => nomatch q⟩⟩⟩) (Or.inr ⟨rfl, fun u => absurd (((own_U_4_3 w0 w1 w2 w3 s0 s1 s2).mp u).2.1) hc284⟩) T282 _ _ _ _ (X282.more (by decide) (by decide)) rfl N282 hS0 hZ hown (CHv.keep K282 sf0 (CHv.keep K265 sf0 CH0)) (CHr.trans (CHr.trans (CHr.refl CH0) (CHr.keep K265 sf0 CH0)) (CHr.keep K282 sf0 (CHv.keep K265 sf0 CH0))) (Nat.le_trans (Nat.le_trans (Nat.zero_le _) K265.1) K282.1) (Nat.le_trans (Nat.le_trans Z0 K265.1) K282.1) ((O.keep K265 all0).keep K282 all0) Eq282 Cq282 Vq282 Aq282 (Eq265.keep K282) (Cq265.keep K282 nin0) (Vq265.keep K282 nin0) (Aq265.keep K282 nin0)
        · refine o_icY X282 H at_226 (feq hc283).2 (pc' := 259) (by decide) (by decide) ?_
          refine o_ic X282 H at_259 (v := 0) rfl ?_
          refine o_ist X282 H at_260 (L' := #[.val (.int p1), .val (.int p2), .val (.int p3), .val (.int s0), .val (.int s1), .val (.int s2), .val (.int (3 : Int32)), .val (.int w0), .val (.int w1), .val (.int w2), .val (.int w3), .val (.int (4 : Int32)), .val (.ref x265), .val (.ref x282), .val (.int (0 : Int32)), .unset, .unset]) rfl ?_
          refine o_ild X282 H at_262 rfl ?_
          refine o_ifY X282 H at_264 ((if0 _ _).trans (feq (by decide : ¬ ((3 : Int32) = (0 : Int32)))).2) (pc' := 272) (by decide) (by decide) ?_
          refine o_ild X282 H at_272 rfl ?_
          refine o_ic X282 H at_274 (v := 1) rfl ?_
          refine o_icY X282 H at_275 (feq (by decide : ¬ ((3 : Int32) = (1 : Int32)))).2 (pc' := 283) (by decide) (by decide) ?_
          refine o_ild X282 H at_283 rfl ?_
          refine o_ic X282 H at_285 (v := 2) rfl ?_
          refine o_icY X282 H at_286 (feq (by decide : ¬ ((3 : Int32) = (2 : Int32)))).2 (pc' := 294) (by decide) (by decide) ?_
          refine o_ild X282 H at_294 rfl ?_
          refine o_ist X282 H at_296 (L' := #[.val (.int p1), .val (.int p2), .val (.int p3), .val (.int s0), .val (.int s1), .val (.int s2), .val (.int (3 : Int32)), .val (.int w0), .val (.int w1), .val (.int w2), .val (.int w3), .val (.int (4 : Int32)), .val (.ref x265), .val (.ref x282), .val (.int (0 : Int32)), .val (.int w3), .unset]) rfl ?_
          refine o_ild X282 H at_298 rfl ?_
          refine o_ild X282 H at_300 rfl ?_
          refine o_icN X282 H at_302 (flt (by decide : ¬ ((4 : Int32) < (3 : Int32)))).1 ?_
          refine o_ild X282 H at_305 rfl ?_
          refine o_ifY X282 H at_307 ((if0 _ _).trans (teq (by decide : (0 : Int32) = (0 : Int32))).1) (pc' := 328) (by decide) (by decide) ?_
          refine o_ic X282 H at_328 (v := 0) rfl ?_
          refine o_ist X282 H at_329 (L' := #[.val (.int p1), .val (.int p2), .val (.int p3), .val (.int s0), .val (.int s1), .val (.int s2), .val (.int (3 : Int32)), .val (.int w0), .val (.int w1), .val (.int w2), .val (.int w3), .val (.int (4 : Int32)), .val (.ref x265), .val (.ref x282), .val (.int (0 : Int32)), .val (.int w3), .val (.int (0 : Int32))]) rfl ?_
          exact PT _ _ _ _ _ _ _ _ _ _ _ _ _ _ x282 t282 x265 t265 kt282 kt265 4 3 [w0, w1, w2, w3] [s0, s1, s2] _ rfl rfl (by decide) (by decide) (List.forall_mem_cons.mpr ⟨rw0, List.forall_mem_cons.mpr ⟨rw1, List.forall_mem_cons.mpr ⟨rw2, List.forall_mem_cons.mpr ⟨rw3, fun _ q => nomatch q⟩⟩⟩⟩) (List.forall_mem_cons.mpr ⟨rs0, List.forall_mem_cons.mpr ⟨rs1, List.forall_mem_cons.mpr ⟨rs2, fun _ q => nomatch q⟩⟩⟩) (Or.inr ⟨rfl, fun u => absurd (((own_U_4_3 w0 w1 w2 w3 s0 s1 s2).mp u).1) hc283⟩) T282 _ _ _ _ (X282.more (by decide) (by decide)) rfl N282 hS0 hZ hown (CHv.keep K282 sf0 (CHv.keep K265 sf0 CH0)) (CHr.trans (CHr.trans (CHr.refl CH0) (CHr.keep K265 sf0 CH0)) (CHr.keep K282 sf0 (CHv.keep K265 sf0 CH0))) (Nat.le_trans (Nat.le_trans (Nat.zero_le _) K265.1) K282.1) (Nat.le_trans (Nat.le_trans Z0 K265.1) K282.1) ((O.keep K265 all0).keep K282 all0) Eq282 Cq282 Vq282 Aq282 (Eq265.keep K282) (Cq265.keep K282 nin0) (Vq265.keep K282 nin0) (Aq265.keep K282 nin0)
    · show own_Fin p e below _ (s₁.setTop (mkF m 86 #[.val (.int p1), .val (.int p2), .val (.int p3), .val (.int s0), .val (.int s1), .val (.int s2), .val (.int (3 : Int32)), .val (.int k0), .val (.int k1), .val (.int k2), .val (.int k3), .val (.int cl), .unset, .unset, .unset, .unset, .unset] []))
      refine o_ildN X0 H at_86 rfl ?_
      refine o_ic X0 H at_87 (v := 3) rfl ?_
      refine own_on (fun tq => XS.iushr X0.here hx rfl (hb hby at_88) rfl) ?_
      show own_Fin p e below _ (s₁.setTop (mkF m 89 #[.val (.int p1), .val (.int p2), .val (.int p3), .val (.int s0), .val (.int s1), .val (.int s2), .val (.int (3 : Int32)), .val (.int k0), .val (.int k1), .val (.int k2), .val (.int k3), .val (.int cl), .unset, .unset, .unset, .unset, .unset] [(.int ((p3.toUInt32 >>> ((3 : Int32) &&& 31).toUInt32).toInt32))]))
      refine o_ic X0 H at_89 (v := 1) rfl ?_
      refine o_iand X0 H at_90 ?_
      by_cases hc287 : (((p3.toUInt32 >>> ((3 : Int32) &&& 31).toUInt32).toInt32) &&& (1 : Int32)) = (0 : Int32)
      · refine o_ifY X0 H at_91 ((if0 _ _).trans (teq hc287).1) (pc' := 102) (by decide) (by decide) ?_
        refine o_ildN X0 H at_102 rfl ?_
        refine o_ic X0 H at_103 (v := 4) rfl ?_
        refine own_on (fun tq => XS.iushr X0.here hx rfl (hb hby at_104) rfl) ?_
        show own_Fin p e below _ (s₁.setTop (mkF m 105 #[.val (.int p1), .val (.int p2), .val (.int p3), .val (.int s0), .val (.int s1), .val (.int s2), .val (.int (3 : Int32)), .val (.int k0), .val (.int k1), .val (.int k2), .val (.int k3), .val (.int cl), .unset, .unset, .unset, .unset, .unset] [(.int ((p3.toUInt32 >>> ((4 : Int32) &&& 31).toUInt32).toInt32))]))
        refine o_ic X0 H at_105 (v := 1) rfl ?_
        refine o_iand X0 H at_106 ?_
        by_cases hc288 : (((p3.toUInt32 >>> ((4 : Int32) &&& 31).toUInt32).toInt32) &&& (1 : Int32)) = (0 : Int32)
        · refine o_ifY X0 H at_107 ((if0 _ _).trans (teq hc288).1) (pc' := 120) (by decide) (by decide) ?_
          refine o_ildN X0 H at_120 rfl ?_
          refine o_ic X0 H at_121 (v := 5) rfl ?_
          refine own_on (fun tq => XS.iushr X0.here hx rfl (hb hby at_122) rfl) ?_
          show own_Fin p e below _ (s₁.setTop (mkF m 123 #[.val (.int p1), .val (.int p2), .val (.int p3), .val (.int s0), .val (.int s1), .val (.int s2), .val (.int (3 : Int32)), .val (.int k0), .val (.int k1), .val (.int k2), .val (.int k3), .val (.int cl), .unset, .unset, .unset, .unset, .unset] [(.int ((p3.toUInt32 >>> ((5 : Int32) &&& 31).toUInt32).toInt32))]))
          refine o_ic X0 H at_123 (v := 1) rfl ?_
          refine o_iand X0 H at_124 ?_
          by_cases hc289 : (((p3.toUInt32 >>> ((5 : Int32) &&& 31).toUInt32).toInt32) &&& (1 : Int32)) = (0 : Int32)
          · refine o_ifY X0 H at_125 ((if0 _ _).trans (teq hc289).1) (pc' := 138) (by decide) (by decide) ?_
            refine o_ildN X0 H at_138 rfl ?_
            refine o_si X0 H at_139 (v := 128) rfl ?_
            refine o_iand X0 H at_142 ?_
            by_cases hc290 : (p3 &&& (128 : Int32)) = (0 : Int32)
            · refine o_ifY X0 H at_143 ((if0 _ _).trans (teq hc290).1) (pc' := 188) (by decide) (by decide) ?_
              exact HM _ _ _ _ ⟨rk0, rk1, rk2, rk3⟩
            · refine o_ifN X0 H at_143 ((if0 _ _).trans (feq hc290).1) ?_
              refine o_ild X0 H at_146 rfl ?_
              refine o_ifY X0 H at_148 ((if0 _ _).trans (feq (by decide : ¬ ((3 : Int32) = (0 : Int32)))).2) (pc' := 158) (by decide) (by decide) ?_
              refine o_ild X0 H at_158 rfl ?_
              refine o_ic X0 H at_160 (v := 1) rfl ?_
              refine o_icY X0 H at_161 (feq (by decide : ¬ ((3 : Int32) = (1 : Int32)))).2 (pc' := 171) (by decide) (by decide) ?_
              refine o_ild X0 H at_171 rfl ?_
              refine o_ic X0 H at_173 (v := 2) rfl ?_
              refine o_icY X0 H at_174 (feq (by decide : ¬ ((3 : Int32) = (2 : Int32)))).2 (pc' := 184) (by decide) (by decide) ?_
              refine o_bi X0 H at_184 (v := 40) rfl ?_
              refine o_ist X0 H at_186 (L' := #[.val (.int p1), .val (.int p2), .val (.int p3), .val (.int s0), .val (.int s1), .val (.int s2), .val (.int (3 : Int32)), .val (.int k0), .val (.int k1), .val (.int k2), .val (.int (40 : Int32)), .val (.int cl), .unset, .unset, .unset, .unset, .unset]) rfl ?_
              exact HM _ _ _ _ ⟨rk0, rk1, rk2, (by decide)⟩
          · refine o_ifN X0 H at_125 ((if0 _ _).trans (feq hc289).1) ?_
            refine o_ild X0 H at_128 rfl ?_
            refine o_ic X0 H at_130 (v := 2) rfl ?_
            refine o_icN X0 H at_131 (tlt (by decide : (2 : Int32) < (3 : Int32))).2.2.2 ?_
            refine o_ild X0 H at_134 rfl ?_
            refine o_ist X0 H at_136 (L' := #[.val (.int p1), .val (.int p2), .val (.int p3), .val (.int s0), .val (.int s1), .val (.int s2), .val (.int (3 : Int32)), .val (.int k0), .val (.int k1), .val (.int s2), .val (.int k3), .val (.int cl), .unset, .unset, .unset, .unset, .unset]) rfl ?_
            refine o_ildN X0 H at_138 rfl ?_
            refine o_si X0 H at_139 (v := 128) rfl ?_
            refine o_iand X0 H at_142 ?_
            by_cases hc291 : (p3 &&& (128 : Int32)) = (0 : Int32)
            · refine o_ifY X0 H at_143 ((if0 _ _).trans (teq hc291).1) (pc' := 188) (by decide) (by decide) ?_
              exact HM _ _ _ _ ⟨rk0, rk1, rs2, rk3⟩
            · refine o_ifN X0 H at_143 ((if0 _ _).trans (feq hc291).1) ?_
              refine o_ild X0 H at_146 rfl ?_
              refine o_ifY X0 H at_148 ((if0 _ _).trans (feq (by decide : ¬ ((3 : Int32) = (0 : Int32)))).2) (pc' := 158) (by decide) (by decide) ?_
              refine o_ild X0 H at_158 rfl ?_
              refine o_ic X0 H at_160 (v := 1) rfl ?_
              refine o_icY X0 H at_161 (feq (by decide : ¬ ((3 : Int32) = (1 : Int32)))).2 (pc' := 171) (by decide) (by decide) ?_
              refine o_ild X0 H at_171 rfl ?_
              refine o_ic X0 H at_173 (v := 2) rfl ?_
              refine o_icY X0 H at_174 (feq (by decide : ¬ ((3 : Int32) = (2 : Int32)))).2 (pc' := 184) (by decide) (by decide) ?_
              refine o_bi X0 H at_184 (v := 40) rfl ?_
              refine o_ist X0 H at_186 (L' := #[.val (.int p1), .val (.int p2), .val (.int p3), .val (.int s0), .val (.int s1), .val (.int s2), .val (.int (3 : Int32)), .val (.int k0), .val (.int k1), .val (.int s2), .val (.int (40 : Int32)), .val (.int cl), .unset, .unset, .unset, .unset, .unset]) rfl ?_
              exact HM _ _ _ _ ⟨rk0, rk1, rs2, (by decide)⟩
        · refine o_ifN X0 H at_107 ((if0 _ _).trans (feq hc288).1) ?_
          refine o_ild X0 H at_110 rfl ?_
          refine o_ic X0 H at_112 (v := 1) rfl ?_
          refine o_icN X0 H at_113 (tlt (by decide : (1 : Int32) < (3 : Int32))).2.2.2 ?_
          refine o_ild X0 H at_116 rfl ?_
          refine o_ist X0 H at_118 (L' := #[.val (.int p1), .val (.int p2), .val (.int p3), .val (.int s0), .val (.int s1), .val (.int s2), .val (.int (3 : Int32)), .val (.int k0), .val (.int s1), .val (.int k2), .val (.int k3), .val (.int cl), .unset, .unset, .unset, .unset, .unset]) rfl ?_
          refine o_ildN X0 H at_120 rfl ?_
          refine o_ic X0 H at_121 (v := 5) rfl ?_
          refine own_on (fun tq => XS.iushr X0.here hx rfl (hb hby at_122) rfl) ?_
          show own_Fin p e below _ (s₁.setTop (mkF m 123 #[.val (.int p1), .val (.int p2), .val (.int p3), .val (.int s0), .val (.int s1), .val (.int s2), .val (.int (3 : Int32)), .val (.int k0), .val (.int s1), .val (.int k2), .val (.int k3), .val (.int cl), .unset, .unset, .unset, .unset, .unset] [(.int ((p3.toUInt32 >>> ((5 : Int32) &&& 31).toUInt32).toInt32))]))
          refine o_ic X0 H at_123 (v := 1) rfl ?_
          refine o_iand X0 H at_124 ?_
          by_cases hc292 : (((p3.toUInt32 >>> ((5 : Int32) &&& 31).toUInt32).toInt32) &&& (1 : Int32)) = (0 : Int32)
          · refine o_ifY X0 H at_125 ((if0 _ _).trans (teq hc292).1) (pc' := 138) (by decide) (by decide) ?_
            refine o_ildN X0 H at_138 rfl ?_
            refine o_si X0 H at_139 (v := 128) rfl ?_
            refine o_iand X0 H at_142 ?_
            by_cases hc293 : (p3 &&& (128 : Int32)) = (0 : Int32)
            · refine o_ifY X0 H at_143 ((if0 _ _).trans (teq hc293).1) (pc' := 188) (by decide) (by decide) ?_
              exact HM _ _ _ _ ⟨rk0, rs1, rk2, rk3⟩
            · refine o_ifN X0 H at_143 ((if0 _ _).trans (feq hc293).1) ?_
              refine o_ild X0 H at_146 rfl ?_
              refine o_ifY X0 H at_148 ((if0 _ _).trans (feq (by decide : ¬ ((3 : Int32) = (0 : Int32)))).2) (pc' := 158) (by decide) (by decide) ?_
              refine o_ild X0 H at_158 rfl ?_
              refine o_ic X0 H at_160 (v := 1) rfl ?_
              refine o_icY X0 H at_161 (feq (by decide : ¬ ((3 : Int32) = (1 : Int32)))).2 (pc' := 171) (by decide) (by decide) ?_
              refine o_ild X0 H at_171 rfl ?_
              refine o_ic X0 H at_173 (v := 2) rfl ?_
              refine o_icY X0 H at_174 (feq (by decide : ¬ ((3 : Int32) = (2 : Int32)))).2 (pc' := 184) (by decide) (by decide) ?_
              refine o_bi X0 H at_184 (v := 40) rfl ?_
              refine o_ist X0 H at_186 (L' := #[.val (.int p1), .val (.int p2), .val (.int p3), .val (.int s0), .val (.int s1), .val (.int s2), .val (.int (3 : Int32)), .val (.int k0), .val (.int s1), .val (.int k2), .val (.int (40 : Int32)), .val (.int cl), .unset, .unset, .unset, .unset, .unset]) rfl ?_
              exact HM _ _ _ _ ⟨rk0, rs1, rk2, (by decide)⟩
          · refine o_ifN X0 H at_125 ((if0 _ _).trans (feq hc292).1) ?_
            refine o_ild X0 H at_128 rfl ?_
            refine o_ic X0 H at_130 (v := 2) rfl ?_
            refine o_icN X0 H at_131 (tlt (by decide : (2 : Int32) < (3 : Int32))).2.2.2 ?_
            refine o_ild X0 H at_134 rfl ?_
            refine o_ist X0 H at_136 (L' := #[.val (.int p1), .val (.int p2), .val (.int p3), .val (.int s0), .val (.int s1), .val (.int s2), .val (.int (3 : Int32)), .val (.int k0), .val (.int s1), .val (.int s2), .val (.int k3), .val (.int cl), .unset, .unset, .unset, .unset, .unset]) rfl ?_
            refine o_ildN X0 H at_138 rfl ?_
            refine o_si X0 H at_139 (v := 128) rfl ?_
            refine o_iand X0 H at_142 ?_
            by_cases hc294 : (p3 &&& (128 : Int32)) = (0 : Int32)
            · refine o_ifY X0 H at_143 ((if0 _ _).trans (teq hc294).1) (pc' := 188) (by decide) (by decide) ?_
              exact HM _ _ _ _ ⟨rk0, rs1, rs2, rk3⟩
            · refine o_ifN X0 H at_143 ((if0 _ _).trans (feq hc294).1) ?_
              refine o_ild X0 H at_146 rfl ?_
              refine o_ifY X0 H at_148 ((if0 _ _).trans (feq (by decide : ¬ ((3 : Int32) = (0 : Int32)))).2) (pc' := 158) (by decide) (by decide) ?_
              refine o_ild X0 H at_158 rfl ?_
              refine o_ic X0 H at_160 (v := 1) rfl ?_
              refine o_icY X0 H at_161 (feq (by decide : ¬ ((3 : Int32) = (1 : Int32)))).2 (pc' := 171) (by decide) (by decide) ?_
              refine o_ild X0 H at_171 rfl ?_
              refine o_ic X0 H at_173 (v := 2) rfl ?_
              refine o_icY X0 H at_174 (feq (by decide : ¬ ((3 : Int32) = (2 : Int32)))).2 (pc' := 184) (by decide) (by decide) ?_
              refine o_bi X0 H at_184 (v := 40) rfl ?_
              refine o_ist X0 H at_186 (L' := #[.val (.int p1), .val (.int p2), .val (.int p3), .val (.int s0), .val (.int s1), .val (.int s2), .val (.int (3 : Int32)), .val (.int k0), .val (.int s1), .val (.int s2), .val (.int (40 : Int32)), .val (.int cl), .unset, .unset, .unset, .unset, .unset]) rfl ?_
              exact HM _ _ _ _ ⟨rk0, rs1, rs2, (by decide)⟩
      · refine o_ifN X0 H at_91 ((if0 _ _).trans (feq hc287).1) ?_
        refine o_ild X0 H at_94 rfl ?_
        refine o_ifN X0 H at_96 ((if0 _ _).trans (tlt (by decide : (0 : Int32) < (3 : Int32))).2.2.2) ?_
        refine o_ildN X0 H at_99 rfl ?_
        refine o_ist X0 H at_100 (L' := #[.val (.int p1), .val (.int p2), .val (.int p3), .val (.int s0), .val (.int s1), .val (.int s2), .val (.int (3 : Int32)), .val (.int s0), .val (.int k1), .val (.int k2), .val (.int k3), .val (.int cl), .unset, .unset, .unset, .unset, .unset]) rfl ?_
        refine o_ildN X0 H at_102 rfl ?_
        refine o_ic X0 H at_103 (v := 4) rfl ?_
        refine own_on (fun tq => XS.iushr X0.here hx rfl (hb hby at_104) rfl) ?_
        show own_Fin p e below _ (s₁.setTop (mkF m 105 #[.val (.int p1), .val (.int p2), .val (.int p3), .val (.int s0), .val (.int s1), .val (.int s2), .val (.int (3 : Int32)), .val (.int s0), .val (.int k1), .val (.int k2), .val (.int k3), .val (.int cl), .unset, .unset, .unset, .unset, .unset] [(.int ((p3.toUInt32 >>> ((4 : Int32) &&& 31).toUInt32).toInt32))]))
        refine o_ic X0 H at_105 (v := 1) rfl ?_
        refine o_iand X0 H at_106 ?_
        by_cases hc295 : (((p3.toUInt32 >>> ((4 : Int32) &&& 31).toUInt32).toInt32) &&& (1 : Int32)) = (0 : Int32)
        · refine o_ifY X0 H at_107 ((if0 _ _).trans (teq hc295).1) (pc' := 120) (by decide) (by decide) ?_
          refine o_ildN X0 H at_120 rfl ?_
          refine o_ic X0 H at_121 (v := 5) rfl ?_
          refine own_on (fun tq => XS.iushr X0.here hx rfl (hb hby at_122) rfl) ?_
          show own_Fin p e below _ (s₁.setTop (mkF m 123 #[.val (.int p1), .val (.int p2), .val (.int p3), .val (.int s0), .val (.int s1), .val (.int s2), .val (.int (3 : Int32)), .val (.int s0), .val (.int k1), .val (.int k2), .val (.int k3), .val (.int cl), .unset, .unset, .unset, .unset, .unset] [(.int ((p3.toUInt32 >>> ((5 : Int32) &&& 31).toUInt32).toInt32))]))
          refine o_ic X0 H at_123 (v := 1) rfl ?_
          refine o_iand X0 H at_124 ?_
          by_cases hc296 : (((p3.toUInt32 >>> ((5 : Int32) &&& 31).toUInt32).toInt32) &&& (1 : Int32)) = (0 : Int32)
          · refine o_ifY X0 H at_125 ((if0 _ _).trans (teq hc296).1) (pc' := 138) (by decide) (by decide) ?_
            refine o_ildN X0 H at_138 rfl ?_
            refine o_si X0 H at_139 (v := 128) rfl ?_
            refine o_iand X0 H at_142 ?_
            by_cases hc297 : (p3 &&& (128 : Int32)) = (0 : Int32)
            · refine o_ifY X0 H at_143 ((if0 _ _).trans (teq hc297).1) (pc' := 188) (by decide) (by decide) ?_
              exact HM _ _ _ _ ⟨rs0, rk1, rk2, rk3⟩
            · refine o_ifN X0 H at_143 ((if0 _ _).trans (feq hc297).1) ?_
              refine o_ild X0 H at_146 rfl ?_
              refine o_ifY X0 H at_148 ((if0 _ _).trans (feq (by decide : ¬ ((3 : Int32) = (0 : Int32)))).2) (pc' := 158) (by decide) (by decide) ?_
              refine o_ild X0 H at_158 rfl ?_
              refine o_ic X0 H at_160 (v := 1) rfl ?_
              refine o_icY X0 H at_161 (feq (by decide : ¬ ((3 : Int32) = (1 : Int32)))).2 (pc' := 171) (by decide) (by decide) ?_
              refine o_ild X0 H at_171 rfl ?_
              refine o_ic X0 H at_173 (v := 2) rfl ?_
              refine o_icY X0 H at_174 (feq (by decide : ¬ ((3 : Int32) = (2 : Int32)))).2 (pc' := 184) (by decide) (by decide) ?_
              refine o_bi X0 H at_184 (v := 40) rfl ?_
              refine o_ist X0 H at_186 (L' := #[.val (.int p1), .val (.int p2), .val (.int p3), .val (.int s0), .val (.int s1), .val (.int s2), .val (.int (3 : Int32)), .val (.int s0), .val (.int k1), .val (.int k2), .val (.int (40 : Int32)), .val (.int cl), .unset, .unset, .unset, .unset, .unset]) rfl ?_
              exact HM _ _ _ _ ⟨rs0, rk1, rk2, (by decide)⟩
          · refine o_ifN X0 H at_125 ((if0 _ _).trans (feq hc296).1) ?_
            refine o_ild X0 H at_128 rfl ?_
            refine o_ic X0 H at_130 (v := 2) rfl ?_
            refine o_icN X0 H at_131 (tlt (by decide : (2 : Int32) < (3 : Int32))).2.2.2 ?_
            refine o_ild X0 H at_134 rfl ?_
            refine o_ist X0 H at_136 (L' := #[.val (.int p1), .val (.int p2), .val (.int p3), .val (.int s0), .val (.int s1), .val (.int s2), .val (.int (3 : Int32)), .val (.int s0), .val (.int k1), .val (.int s2), .val (.int k3), .val (.int cl), .unset, .unset, .unset, .unset, .unset]) rfl ?_
            refine o_ildN X0 H at_138 rfl ?_
            refine o_si X0 H at_139 (v := 128) rfl ?_
            refine o_iand X0 H at_142 ?_
            by_cases hc298 : (p3 &&& (128 : Int32)) = (0 : Int32)
            · refine o_ifY X0 H at_143 ((if0 _ _).trans (teq hc298).1) (pc' := 188) (by decide) (by decide) ?_
              exact HM _ _ _ _ ⟨rs0, rk1, rs2, rk3⟩
            · refine o_ifN X0 H at_143 ((if0 _ _).trans (feq hc298).1) ?_
              refine o_ild X0 H at_146 rfl ?_
              refine o_ifY X0 H at_148 ((if0 _ _).trans (feq (by decide : ¬ ((3 : Int32) = (0 : Int32)))).2) (pc' := 158) (by decide) (by decide) ?_
              refine o_ild X0 H at_158 rfl ?_
              refine o_ic X0 H at_160 (v := 1) rfl ?_
              refine o_icY X0 H at_161 (feq (by decide : ¬ ((3 : Int32) = (1 : Int32)))).2 (pc' := 171) (by decide) (by decide) ?_
              refine o_ild X0 H at_171 rfl ?_
              refine o_ic X0 H at_173 (v := 2) rfl ?_
              refine o_icY X0 H at_174 (feq (by decide : ¬ ((3 : Int32) = (2 : Int32)))).2 (pc' := 184) (by decide) (by decide) ?_
              refine o_bi X0 H at_184 (v := 40) rfl ?_
              refine o_ist X0 H at_186 (L' := #[.val (.int p1), .val (.int p2), .val (.int p3), .val (.int s0), .val (.int s1), .val (.int s2), .val (.int (3 : Int32)), .val (.int s0), .val (.int k1), .val (.int s2), .val (.int (40 : Int32)), .val (.int cl), .unset, .unset, .unset, .unset, .unset]) rfl ?_
              exact HM _ _ _ _ ⟨rs0, rk1, rs2, (by decide)⟩
        · refine o_ifN X0 H at_107 ((if0 _ _).trans (feq hc295).1) ?_
          refine o_ild X0 H at_110 rfl ?_
          refine o_ic X0 H at_112 (v := 1) rfl ?_
          refine o_icN X0 H at_113 (tlt (by decide : (1 : Int32) < (3 : Int32))).2.2.2 ?_
          refine o_ild X0 H at_116 rfl ?_
          refine o_ist X0 H at_118 (L' := #[.val (.int p1), .val (.int p2), .val (.int p3), .val (.int s0), .val (.int s1), .val (.int s2), .val (.int (3 : Int32)), .val (.int s0), .val (.int s1), .val (.int k2), .val (.int k3), .val (.int cl), .unset, .unset, .unset, .unset, .unset]) rfl ?_
          refine o_ildN X0 H at_120 rfl ?_
          refine o_ic X0 H at_121 (v := 5) rfl ?_
          refine own_on (fun tq => XS.iushr X0.here hx rfl (hb hby at_122) rfl) ?_
          show own_Fin p e below _ (s₁.setTop (mkF m 123 #[.val (.int p1), .val (.int p2), .val (.int p3), .val (.int s0), .val (.int s1), .val (.int s2), .val (.int (3 : Int32)), .val (.int s0), .val (.int s1), .val (.int k2), .val (.int k3), .val (.int cl), .unset, .unset, .unset, .unset, .unset] [(.int ((p3.toUInt32 >>> ((5 : Int32) &&& 31).toUInt32).toInt32))]))
          refine o_ic X0 H at_123 (v := 1) rfl ?_
          refine o_iand X0 H at_124 ?_
          by_cases hc299 : (((p3.toUInt32 >>> ((5 : Int32) &&& 31).toUInt32).toInt32) &&& (1 : Int32)) = (0 : Int32)
          · refine o_ifY X0 H at_125 ((if0 _ _).trans (teq hc299).1) (pc' := 138) (by decide) (by decide) ?_
            refine o_ildN X0 H at_138 rfl ?_
            refine o_si X0 H at_139 (v := 128) rfl ?_
            refine o_iand X0 H at_142 ?_
            by_cases hc300 : (p3 &&& (128 : Int32)) = (0 : Int32)
            · refine o_ifY X0 H at_143 ((if0 _ _).trans (teq hc300).1) (pc' := 188) (by decide) (by decide) ?_
              exact HM _ _ _ _ ⟨rs0, rs1, rk2, rk3⟩
            · refine o_ifN X0 H at_143 ((if0 _ _).trans (feq hc300).1) ?_
              refine o_ild X0 H at_146 rfl ?_
              refine o_ifY X0 H at_148 ((if0 _ _).trans (feq (by decide : ¬ ((3 : Int32) = (0 : Int32)))).2) (pc' := 158) (by decide) (by decide) ?_
              refine o_ild X0 H at_158 rfl ?_
              refine o_ic X0 H at_160 (v := 1) rfl ?_
              refine o_icY X0 H at_161 (feq (by decide : ¬ ((3 : Int32) = (1 : Int32)))).2 (pc' := 171) (by decide) (by decide) ?_
              refine o_ild X0 H at_171 rfl ?_
              refine o_ic X0 H at_173 (v := 2) rfl ?_
              refine o_icY X0 H at_174 (feq (by decide : ¬ ((3 : Int32) = (2 : Int32)))).2 (pc' := 184) (by decide) (by decide) ?_
              refine o_bi X0 H at_184 (v := 40) rfl ?_
              refine o_ist X0 H at_186 (L' := #[.val (.int p1), .val (.int p2), .val (.int p3), .val (.int s0), .val (.int s1), .val (.int s2), .val (.int (3 : Int32)), .val (.int s0), .val (.int s1), .val (.int k2), .val (.int (40 : Int32)), .val (.int cl), .unset, .unset, .unset, .unset, .unset]) rfl ?_
              exact HM _ _ _ _ ⟨rs0, rs1, rk2, (by decide)⟩
          · refine o_ifN X0 H at_125 ((if0 _ _).trans (feq hc299).1) ?_
            refine o_ild X0 H at_128 rfl ?_
            refine o_ic X0 H at_130 (v := 2) rfl ?_
            refine o_icN X0 H at_131 (tlt (by decide : (2 : Int32) < (3 : Int32))).2.2.2 ?_
            refine o_ild X0 H at_134 rfl ?_
            refine o_ist X0 H at_136 (L' := #[.val (.int p1), .val (.int p2), .val (.int p3), .val (.int s0), .val (.int s1), .val (.int s2), .val (.int (3 : Int32)), .val (.int s0), .val (.int s1), .val (.int s2), .val (.int k3), .val (.int cl), .unset, .unset, .unset, .unset, .unset]) rfl ?_
            refine o_ildN X0 H at_138 rfl ?_
            refine o_si X0 H at_139 (v := 128) rfl ?_
            refine o_iand X0 H at_142 ?_
            by_cases hc301 : (p3 &&& (128 : Int32)) = (0 : Int32)
            · refine o_ifY X0 H at_143 ((if0 _ _).trans (teq hc301).1) (pc' := 188) (by decide) (by decide) ?_
              exact HM _ _ _ _ ⟨rs0, rs1, rs2, rk3⟩
            · refine o_ifN X0 H at_143 ((if0 _ _).trans (feq hc301).1) ?_
              refine o_ild X0 H at_146 rfl ?_
              refine o_ifY X0 H at_148 ((if0 _ _).trans (feq (by decide : ¬ ((3 : Int32) = (0 : Int32)))).2) (pc' := 158) (by decide) (by decide) ?_
              refine o_ild X0 H at_158 rfl ?_
              refine o_ic X0 H at_160 (v := 1) rfl ?_
              refine o_icY X0 H at_161 (feq (by decide : ¬ ((3 : Int32) = (1 : Int32)))).2 (pc' := 171) (by decide) (by decide) ?_
              refine o_ild X0 H at_171 rfl ?_
              refine o_ic X0 H at_173 (v := 2) rfl ?_
              refine o_icY X0 H at_174 (feq (by decide : ¬ ((3 : Int32) = (2 : Int32)))).2 (pc' := 184) (by decide) (by decide) ?_
              refine o_bi X0 H at_184 (v := 40) rfl ?_
              refine o_ist X0 H at_186 (L' := #[.val (.int p1), .val (.int p2), .val (.int p3), .val (.int s0), .val (.int s1), .val (.int s2), .val (.int (3 : Int32)), .val (.int s0), .val (.int s1), .val (.int s2), .val (.int (40 : Int32)), .val (.int cl), .unset, .unset, .unset, .unset, .unset]) rfl ?_
              exact HM _ _ _ _ ⟨rs0, rs1, rs2, (by decide)⟩
set_option maxRecDepth 65536 in
set_option maxHeartbeats 40000000 in
theorem comes_1 {Post : Tables → Env → Array Value → State → Outcome → State → Prop} (hpost : ∀ tb e args s v u, (limb_1_1.after args s (.returned v) u = true ∧ limb_1_2.after args s (.returned v) u = true ∧ True) → ReturnedEndW s (.returned v) u (Jvm.fieldLocs frame_1_writes args s ++ Jvm.arrayLocs frame_1_arrays args s ++ Jvm.staticLocs frame_1_statics s) 32 2240 → Post tb e args s (.returned v) u) :
    ArmFor flags0 classFile x code maxLocals ret World_1 tables_1 room_1 Calls_1 rest_1 Pre_1 Post := by
  intro l hfl _ _ p e ha hc hk s m args below hf hA hF happ hP
  obtain ⟨hcalls, hrest, hpre⟩ := hP
  obtain ⟨-, -, -, hnamed, -, -, -, hat⟩ := (Spec.applies_iff hf).mp happ
  obtain ⟨hg, hn⟩ := and_e (Cond.before_iff.mp (show (Jvm.Cond.and given_1 narrow_1).before args s = true from hpre))
  obtain ⟨ga0l, ga0r⟩ := and_e hg
  obtain ⟨ga1l, ga1r⟩ := and_e ga0r
  obtain ⟨ga2l, ga2r⟩ := and_e ga1r
  obtain ⟨w0, w1, w2, rfl⟩ : ∃ w0 w1 w2 : Value, args = #[w0, w1, w2] := by
    have hs : args.size = 3 := by simpa [Cond.value, given_1] using ga0l
    obtain ⟨L⟩ := args
    match L, hs with
    | [w0, w1, w2], _ => exact ⟨w0, w1, w2, rfl⟩
  have hw := fun d (hd : d ∈ tables_1) => atoms_spec (ws := Jvm.Cond.code x code maxLocals ret :: tables_1) hat d (List.mem_cons_of_mem _ hd)
  have hfit : Fit s := fun {y c} hc i hi => by
    obtain ⟨ha, rfl⟩ := Array.getElem?_eq_some_iff.mp hc
    have q := List.all_eq_true.mp ((Array.all_eq_true_iff_forall_mem.mp hF) _ (Array.getElem_mem ha)) i (List.mem_range.mpr hi)
    simpa [Array.getElem?_eq_getElem hi] using q
  obtain ⟨hsets, hown0⟩ := atoms_of _ (rest_1_c_eq ▸ (show rest_1_c.before _ s = true from hrest))
  have hr0 := Cond.before_iff.mp hown0
  obtain ⟨i0, ei0⟩ := is_v ga1l
  obtain rfl : w0 = (.int i0) := Option.some.inj ei0
  obtain ⟨i1, ei1⟩ := is_v ga2l
  obtain rfl : w1 = (.int i1) := Option.some.inj ei1
  obtain ⟨i2, ei2⟩ := is_v ga2r
  obtain rfl : w2 = (.int i2) := Option.some.inj ei2
  obtain ⟨z, ez⟩ := is_v (Cond.before_iff.mp (hsets _ (List.mem_of_getElem? (i := 1) rfl)))
  have SC := Sta.start ez (Or.inl (hsets _ (List.mem_of_getElem? (i := 0) rfl)))
  have hz : ¬ z = (0 : Int32) := gotF (Cond.eq_ints ez (Term.int_eval (0))) (not_v (Cond.before_iff.mp (hsets _ (List.mem_of_getElem? (i := 2) rfl))))
  have hcw : Jvm.Lit.compactW.before #[.int i0, .int i1, .int i2] s = true := (hsets _ (List.mem_of_getElem? (i := 2) rfl))
  obtain ⟨fm, ef, hfm⟩ := isR_v (Cond.before_iff.mp (hsets _ (List.mem_of_getElem? (i := 8) rfl)))
  have SF := Sta.start ef (Or.inl (hsets _ (List.mem_of_getElem? (i := 7) rfl)))
  have hEL : EW s #[.int i0, .int i1, .int i2] own_EL := EW.cons (ow hw 116 rfl) (by decide) (EW.cons (ow hw 18 rfl) (by decide) EW.nil)
  obtain ⟨n, o, h1, h2, h3, _, L, rfl, ⟨rfl, N⟩, -, hq⟩ := rm0 l s _ hw tables_1 i0 i1 i2 z s.heap s.heap.size (Nat.le_refl _) hEL hz (Old.start s) SC p e ha hc hk s m _ below hf ((Spec.applies_iff_loose hf).mp happ).1 ⟨rfl, State.Warmed39.refl s, rfl, (CHv.start hEL (fun p hp => hcalls.1 p (by simp only [own_EL, List.mem_cons, List.not_mem_nil, or_false] at hp; rcases hp with rfl | rfl; exact List.mem_of_getElem? (i := 0) rfl; exact List.mem_of_getElem? (i := 1) rfl)) hcw (ow hw 19 rfl) (ow hw 5 rfl))⟩ trivial
  refine ⟨n, _, h1, h2, h3, hpost _ _ _ _ _ _ ⟨Cond.after_iff.mpr rfl, Cond.after_iff.mpr (eq_i res_at (Term.int_eval (1)) rfl), trivial⟩ ⟨hq.1, hq.2.1, hq.2.2.1, (hq.2.2.2.sift fun y hy => Or.inr (N y hy)).mono (by decide) (by decide)⟩⟩
theorem main_1_1 : Claimed_1_1 := comes_1 fun _ _ _ _ _ _ h hF => ⟨h.1, hF⟩
theorem main_1_2 : Claimed_1_2 := comes_1 fun _ _ _ _ _ _ h hF => ⟨h.2.1, hF⟩
end Jvm.Pilot.@@N@@
namespace Jvm.Pilot.@@N@@
open Jvm Jvm.ClassFile Sem Op Lib Jvm.Free Jvm.Stand Jvm.Pilot.@@N@@.Jvm.D
/-! MADE BY PROGRAM (witnessworld.py) out of the Statement's table words and the real class files: 27 classes; the members and pool entries that the words name. The judged class is class 1, her method 1. -/
namespace start1
open Jvm.ClassFile
def u (s : String) : CpInfo := .utf8 (stringToUtf16 s)
/-- a pool by its gaps: so many unusable entries, then the entry; so many at the end -/
def gap : Nat → List CpInfo → List CpInfo
  | 0, r => r
  | n + 1, r => .unusable :: gap n r
def poolList (es : List (Nat × CpInfo)) (last : Nat) : List CpInfo := es.foldr (fun e r => gap e.1 (e.2 :: r)) (gap last [])
def pool (es : List (Nat × CpInfo)) (last : Nat) : Array CpInfo := ⟨poolList es last⟩
def fileOf (pool : Array CpInfo) (this : Nat) (attrs : Array Attribute := #[]) (ms : Array MethodInfo := #[]) (fl : Nat := 33) (sup : Nat := 0) (ifs : Array Nat := #[]) (fds : Array FieldInfo := #[]) : ClassFile where
  minorVersion := 0
  majorVersion := 65
  constantPool := pool
  accessFlags := fl
  thisClass := this
  superClass := sup
  interfaces := ifs
  fields := fds
  methods := ms
  attributes := attrs
def plain (name : String) (sup : Option ClassId) : Class where
  name := name
  kind := .ordinary
  loader := none
  accessFlags := 33
  super := sup
  interfaces := #[]
  cf := none
  fields := #[]
  methods := #[]
  instanceTypes := #[]
  staticTypes := #[]
  resolved := #[]
  callSites := []
  init := .initialized
  statics := none
  mirror := none

def pool0 : Array CpInfo := pool [(5, u "<init>"), (0, u "()V"), (1, .class_ 10), (1, u "java/lang/Object")] 113

def k0c0 : Code := { maxStack := 0, maxLocals := 1, code := object_method_1_code, exceptionTable := #[], attributes := #[] }
def k0m0 : Method := { name := "<init>", desc := "()V", sig := { parameters := [], returnType := none }, accessFlags := 1, code := some k0c0 }
/-- java/lang/Object -/
def k0 : Class := { plain "java/lang/Object" none with
  accessFlags := 33
  interfaces := #[]
  cf := some (fileOf pool0 8 #[] #[{ accessFlags := 1, nameIndex := 5, descriptorIndex := 6, attributes := #[] }] 33 0 #[] #[])
  fields := #[]
  methods := #[k0m0]
  instanceTypes := #[]
  staticTypes := #[]
  resolved := Array.replicate 124 none
  statics := none }

def pool1 : Array CpInfo := pool [(2, .class_ 4), (1, u "java/lang/Object"), (0, u "<init>"), (0, u "()V"), (0, .methodref 8 9), (0, .class_ 10), (0, .nameAndType 11 12), (0, u "com/example/covenantry/covenantry/input/LedgerIsUnderPinLaw"), (0, u "mk"), (0, u "(CCCCI)Ljava/lang/String;"), (0, .methodref 14 15), (0, .class_ 16), (0, .nameAndType 17 18), (0, u "com/example/covenantry/covenantry/input/Ledger"), (0, u "isUnder"), (0, u "(Ljava/lang/String;Ljava/lang/String;)Z"), (0, .class_ 20), (0, u "java/lang/String"), (0, .methodref 19 22), (0, .nameAndType 5 23), (0, u "([C)V"), (2, u "law"), (0, u "(III)Z")] 3

def k1m0 : Method := { name := "<init>", desc := "()V", sig := { parameters := [], returnType := none }, accessFlags := 2, code := none }
def k1c1 : Code := { maxStack := 5, maxLocals := 17, code := code, exceptionTable := #[], attributes := #[] }
def k1m1 : Method := { name := "law", desc := "(III)Z", sig := { parameters := [.int, .int, .int], returnType := some .boolean }, accessFlags := 9, code := some k1c1 }
def k1c2 : Code := { maxStack := 6, maxLocals := 5, code := method_3_code, exceptionTable := #[], attributes := #[] }
def k1m2 : Method := { name := "mk", desc := "(CCCCI)Ljava/lang/String;", sig := { parameters := [.char, .char, .char, .char, .int], returnType := some (.object "java/lang/String") }, accessFlags := 10, code := some k1c2 }
/-- com/example/covenantry/covenantry/input/LedgerIsUnderPinLaw -/
def k1 : Class := { plain "com/example/covenantry/covenantry/input/LedgerIsUnderPinLaw" (some 0) with
  accessFlags := 49
  interfaces := #[]
  cf := some (fileOf pool1 8 #[] #[{ accessFlags := 2, nameIndex := 5, descriptorIndex := 6, attributes := #[] }, { accessFlags := 9, nameIndex := 26, descriptorIndex := 27, attributes := #[] }, { accessFlags := 10, nameIndex := 11, descriptorIndex := 12, attributes := #[] }] 49 2 #[] #[])
  fields := #[]
  methods := #[k1m0, k1m1, k1m2]
  instanceTypes := #[]
  staticTypes := #[]
  resolved := Array.replicate 31 none
  statics := none }

def pool2 : Array CpInfo := pool [(1, .class_ 2), (0, u "java/io/Serializable"), (0, .class_ 4), (0, u "java/lang/Object")] 2

/-- java/io/Serializable -/
def k2 : Class := { plain "java/io/Serializable" (some 0) with
  accessFlags := 1537
  interfaces := #[]
  cf := some (fileOf pool2 1 #[] #[] 1537 3 #[] #[])
  fields := #[]
  methods := #[]
  instanceTypes := #[]
  staticTypes := #[]
  resolved := Array.replicate 7 none
  statics := none }

def pool3 : Array CpInfo := pool [(1, .class_ 2), (0, u "java/lang/Comparable"), (0, .class_ 4), (0, u "java/lang/Object")] 7

/-- java/lang/Comparable -/
def k3 : Class := { plain "java/lang/Comparable" (some 0) with
  accessFlags := 1537
  interfaces := #[]
  cf := some (fileOf pool3 1 #[] #[] 1537 3 #[] #[])
  fields := #[]
  methods := #[]
  instanceTypes := #[]
  staticTypes := #[]
  resolved := Array.replicate 12 none
  statics := none }

def pool4 : Array CpInfo := pool [(2, .class_ 4), (1, u "java/lang/CharSequence"), (42, .class_ 48), (0, u "java/lang/CharSequence$1CodePointIterator"), (10, .class_ 60), (0, u "java/lang/CharSequence$1CharIterator"), (5, .class_ 67), (0, u "java/lang/Object")] 63

/-- java/lang/CharSequence -/
def k4 : Class := { plain "java/lang/CharSequence" (some 0) with
  accessFlags := 1537
  interfaces := #[]
  cf := some (fileOf pool4 2 #[.nestMembers #[47, 59]] #[] 1537 66 #[] #[])
  fields := #[]
  methods := #[]
  instanceTypes := #[]
  staticTypes := #[]
  resolved := Array.replicate 131 none
  statics := none }

def pool5 : Array CpInfo := pool [(1, .class_ 2), (0, u "java/lang/constant/Constable"), (0, .class_ 4), (0, u "java/lang/Object")] 6

/-- java/lang/constant/Constable -/
def k5 : Class := { plain "java/lang/constant/Constable" (some 0) with
  accessFlags := 1537
  interfaces := #[]
  cf := some (fileOf pool5 1 #[] #[] 1537 3 #[] #[])
  fields := #[]
  methods := #[]
  instanceTypes := #[]
  staticTypes := #[]
  resolved := Array.replicate 11 none
  statics := none }

def pool6 : Array CpInfo := pool [(1, .class_ 2), (0, u "java/lang/constant/ConstantDesc"), (0, .class_ 4), (0, u "java/lang/Object")] 32

/-- java/lang/constant/ConstantDesc -/
def k6 : Class := { plain "java/lang/constant/ConstantDesc" (some 0) with
  accessFlags := 1537
  interfaces := #[]
  cf := some (fileOf pool6 1 #[] #[] 1537 3 #[] #[])
  fields := #[]
  methods := #[]
  instanceTypes := #[]
  staticTypes := #[]
  resolved := Array.replicate 37 none
  statics := none }

def pool7 : Array CpInfo := pool [(1, .methodref 2 3), (0, .class_ 4), (0, .nameAndType 5 6), (0, u "java/lang/Object"), (0, u "<init>"), (0, u "()V"), (0, .string 8), (0, u ""), (0, .fieldref 10 11), (0, .class_ 12), (0, .nameAndType 13 14), (0, u "java/lang/String"), (0, u "value"), (0, u "[B"), (0, .fieldref 10 16), (0, .nameAndType 17 18), (0, u "coder"), (0, u "B"), (2, u "hash"), (0, u "I"), (2, u "hashIsZero"), (0, u "Z"), (0, .methodref 10 28), (0, .nameAndType 5 29), (0, u "([CIILjava/lang/Void;)V"), (8, .fieldref 10 39), (0, .nameAndType 40 26), (0, u "COMPACT_STRINGS"), (1, .class_ 44), (1, u "java/lang/StringUTF16"), (0, u "compress"), (1, .methodref 42 48), (0, .nameAndType 49 50), (0, u "coderFromArrayLen"), (0, u "([BI)B"), (3, .methodref 55 56), (0, .class_ 57), (0, .nameAndType 58 59), (0, u "java/util/Arrays"), (0, u "copyOfRange"), (0, u "([BII)[B"), (47, .class_ 109), (1, u "java/lang/StringLatin1"), (32, u "()Z"), (34, .methodref 42 178), (0, .nameAndType 45 179), (0, u "([CII)[B"), (13, .class_ 195), (1, u "java/lang/System"), (16, .methodref 193 213), (0, .nameAndType 214 215), (0, u "arraycopy"), (0, u "(Ljava/lang/Object;ILjava/lang/Object;II)V"), (118, u "()I"), (0, .methodref 10 336), (0, .nameAndType 17 337), (0, u "()B"), (2, u "()[B"), (35, u "([BI[BII)I"), (112, .methodref 10 490), (0, .nameAndType 5 491), (0, u "(Ljava/lang/AbstractStringBuilder;Ljava/lang/Void;)V"), (1, .nameAndType 494 142), (0, u "isLatin1"), (10, .methodref 10 506), (0, .nameAndType 507 334), (0, u "length"), (24, u "getBytes"), (8, .methodref 107 542), (0, .nameAndType 543 544), (0, u "equals"), (0, u "([B[B)Z"), (4, .methodref 550 506), (0, .class_ 551), (0, u "java/lang/AbstractStringBuilder"), (0, .methodref 550 553), (0, .nameAndType 554 340), (0, u "getValue"), (4, .class_ 561), (1, u "jdk/internal/util/ArraysSupport"), (0, u "mismatch"), (10, u "(Ljava/lang/Object;)Z"), (1, .class_ 576), (0, u "java/lang/CharSequence"), (22, u "CASE_INSENSITIVE_ORDER"), (0, u "Ljava/util/Comparator;"), (6, .methodref 559 608), (0, .nameAndType 562 376), (15, .methodref 10 625), (0, .nameAndType 626 627), (0, u "startsWith"), (0, u "(Ljava/lang/String;I)Z"), (193, u "([BIB)V"), (188, u "([C)V"), (36, .methodref 550 493), (53, u "serialPersistentFields"), (0, u "[Ljava/io/ObjectStreamField;"), (0, .class_ 1104), (0, u "java/lang/String$CaseInsensitiveComparator"), (1, .class_ 1107), (0, u "java/io/Serializable"), (0, .class_ 1109), (0, u "java/lang/Comparable"), (0, .class_ 1111), (0, u "java/lang/constant/Constable"), (0, .class_ 1113), (0, u "java/lang/constant/ConstantDesc"), (2, u "serialVersionUID"), (0, u "J"), (3, u "REPL"), (0, u "C"), (2, u "LATIN1"), (1, u "UTF16"), (105, u "(Ljava/lang/StringBuilder;)V"), (23, u "(Ljava/lang/String;)Z")] 193

def k7m0 : Method := { name := "<init>", desc := "()V", sig := { parameters := [], returnType := none }, accessFlags := 1, code := none }
def k7c1 : Code := { maxStack := 5, maxLocals := 2, code := jdk_42_method_3_code, exceptionTable := #[], attributes := #[] }
def k7m1 : Method := { name := "<init>", desc := "([C)V", sig := { parameters := [(.array .char)], returnType := none }, accessFlags := 1, code := some k7c1 }
def k7c2 : Code := { maxStack := 3, maxLocals := 2, code := jdk_42_method_53_code, exceptionTable := #[], attributes := #[] }
def k7m2 : Method := { name := "<init>", desc := "(Ljava/lang/StringBuilder;)V", sig := { parameters := [(.object "java/lang/StringBuilder")], returnType := none }, accessFlags := 1, code := some k7c2 }
def k7c3 : Code := { maxStack := 2, maxLocals := 1, code := jdk_42_method_54_code, exceptionTable := #[], attributes := #[] }
def k7m3 : Method := { name := "length", desc := "()I", sig := { parameters := [], returnType := some .int }, accessFlags := 1, code := some k7c3 }
def k7c4 : Code := { maxStack := 2, maxLocals := 3, code := jdk_42_method_66_code, exceptionTable := #[], attributes := #[] }
def k7m4 : Method := { name := "equals", desc := "(Ljava/lang/Object;)Z", sig := { parameters := [(.object "java/lang/Object")], returnType := some .boolean }, accessFlags := 1, code := some k7c4 }
def k7c5 : Code := { maxStack := 5, maxLocals := 8, code := jdk_42_method_75_code, exceptionTable := #[], attributes := #[] }
def k7m5 : Method := { name := "startsWith", desc := "(Ljava/lang/String;I)Z", sig := { parameters := [(.object "java/lang/String"), .int], returnType := some .boolean }, accessFlags := 1, code := some k7c5 }
def k7c6 : Code := { maxStack := 3, maxLocals := 2, code := jdk_42_method_76_code, exceptionTable := #[], attributes := #[] }
def k7m6 : Method := { name := "startsWith", desc := "(Ljava/lang/String;)Z", sig := { parameters := [(.object "java/lang/String")], returnType := some .boolean }, accessFlags := 1, code := some k7c6 }
def k7c7 : Code := { maxStack := 5, maxLocals := 4, code := jdk_42_method_147_code, exceptionTable := #[], attributes := #[] }
def k7m7 : Method := { name := "getBytes", desc := "([BIB)V", sig := { parameters := [(.array .byte), .int, .byte], returnType := none }, accessFlags := 0, code := some k7c7 }
def k7c8 : Code := { maxStack := 4, maxLocals := 6, code := jdk_42_method_149_code, exceptionTable := #[], attributes := #[] }
def k7m8 : Method := { name := "<init>", desc := "([CIILjava/lang/Void;)V", sig := { parameters := [(.array .char), .int, .int, (.object "java/lang/Void")], returnType := none }, accessFlags := 2, code := some k7c8 }
def k7c9 : Code := { maxStack := 5, maxLocals := 5, code := jdk_42_method_150_code, exceptionTable := #[], attributes := #[] }
def k7m9 : Method := { name := "<init>", desc := "(Ljava/lang/AbstractStringBuilder;Ljava/lang/Void;)V", sig := { parameters := [(.object "java/lang/AbstractStringBuilder"), (.object "java/lang/Void")], returnType := none }, accessFlags := 0, code := some k7c9 }
def k7c10 : Code := { maxStack := 1, maxLocals := 1, code := jdk_42_method_152_code, exceptionTable := #[], attributes := #[] }
def k7m10 : Method := { name := "coder", desc := "()B", sig := { parameters := [], returnType := some .byte }, accessFlags := 0, code := some k7c10 }
/-- java/lang/String -/
def k7 : Class := { plain "java/lang/String" (some 0) with
  accessFlags := 49
  interfaces := #[2, 3, 4, 5, 6]
  cf := some (fileOf pool7 10 #[.nestMembers #[1103]] #[{ accessFlags := 1, nameIndex := 5, descriptorIndex := 6, attributes := #[] }, { accessFlags := 1, nameIndex := 5, descriptorIndex := 1010, attributes := #[] }, { accessFlags := 1, nameIndex := 5, descriptorIndex := 1233, attributes := #[] }, { accessFlags := 1, nameIndex := 507, descriptorIndex := 334, attributes := #[] }, { accessFlags := 1, nameIndex := 543, descriptorIndex := 573, attributes := #[] }, { accessFlags := 1, nameIndex := 626, descriptorIndex := 627, attributes := #[] }, { accessFlags := 1, nameIndex := 626, descriptorIndex := 1257, attributes := #[] }, { accessFlags := 0, nameIndex := 532, descriptorIndex := 821, attributes := #[] }, { accessFlags := 2, nameIndex := 5, descriptorIndex := 29, attributes := #[] }, { accessFlags := 0, nameIndex := 5, descriptorIndex := 491, attributes := #[] }, { accessFlags := 0, nameIndex := 17, descriptorIndex := 337, attributes := #[] }] 49 2 #[1106, 1108, 575, 1110, 1112] #[{ accessFlags := 18, nameIndex := 13, descriptorIndex := 14, attributes := #[] }, { accessFlags := 18, nameIndex := 17, descriptorIndex := 18, attributes := #[] }, { accessFlags := 2, nameIndex := 21, descriptorIndex := 22, attributes := #[] }, { accessFlags := 2, nameIndex := 25, descriptorIndex := 26, attributes := #[] }, { accessFlags := 26, nameIndex := 1116, descriptorIndex := 1117, attributes := #[] }, { accessFlags := 24, nameIndex := 40, descriptorIndex := 26, attributes := #[] }, { accessFlags := 26, nameIndex := 1101, descriptorIndex := 1102, attributes := #[] }, { accessFlags := 26, nameIndex := 1121, descriptorIndex := 1122, attributes := #[] }, { accessFlags := 25, nameIndex := 599, descriptorIndex := 600, attributes := #[] }, { accessFlags := 24, nameIndex := 1125, descriptorIndex := 18, attributes := #[] }, { accessFlags := 24, nameIndex := 1127, descriptorIndex := 18, attributes := #[] }])
  fields := #[{ name := "value", type := (.array .byte), accessFlags := 18, slot := 0, constantValue := 0 }, { name := "coder", type := .byte, accessFlags := 18, slot := 1, constantValue := 0 }, { name := "hash", type := .int, accessFlags := 2, slot := 2, constantValue := 0 }, { name := "hashIsZero", type := .boolean, accessFlags := 2, slot := 3, constantValue := 0 }, { name := "serialVersionUID", type := .long, accessFlags := 26, slot := 0, constantValue := 0 }, { name := "COMPACT_STRINGS", type := .boolean, accessFlags := 24, slot := 1, constantValue := 0 }, { name := "serialPersistentFields", type := (.array (.object "java/io/ObjectStreamField")), accessFlags := 26, slot := 2, constantValue := 0 }, { name := "REPL", type := .char, accessFlags := 26, slot := 3, constantValue := 0 }, { name := "CASE_INSENSITIVE_ORDER", type := (.object "java/util/Comparator"), accessFlags := 25, slot := 4, constantValue := 0 }, { name := "LATIN1", type := .byte, accessFlags := 24, slot := 5, constantValue := 0 }, { name := "UTF16", type := .byte, accessFlags := 24, slot := 6, constantValue := 0 }]
  methods := #[k7m0, k7m1, k7m2, k7m3, k7m4, k7m5, k7m6, k7m7, k7m8, k7m9, k7m10]
  instanceTypes := #[(.array .byte), .byte, .int, .boolean]
  staticTypes := #[.long, .boolean, (.array (.object "java/io/ObjectStreamField")), .char, (.object "java/util/Comparator"), .byte, .byte]
  resolved := Array.replicate 1451 none
  statics := some 0 }

def pool8 : Array CpInfo := pool [(2, .class_ 4), (1, u "java/lang/Object"), (0, u "<init>"), (0, u "()V"), (0, .class_ 8), (0, u "java/lang/Record")] 13

def k8m0 : Method := { name := "<init>", desc := "()V", sig := { parameters := [], returnType := none }, accessFlags := 4, code := none }
/-- java/lang/Record -/
def k8 : Class := { plain "java/lang/Record" (some 0) with
  accessFlags := 1057
  interfaces := #[]
  cf := some (fileOf pool8 7 #[] #[{ accessFlags := 4, nameIndex := 5, descriptorIndex := 6, attributes := #[] }] 1057 2 #[] #[])
  fields := #[]
  methods := #[k8m0]
  instanceTypes := #[]
  staticTypes := #[]
  resolved := Array.replicate 22 none
  statics := none }

def pool9 : Array CpInfo := pool [(2, .class_ 4), (0, .nameAndType 5 6), (0, u "java/lang/Record"), (0, u "<init>"), (0, u "()V"), (7, .class_ 16), (1, u "com/example/covenantry/covenantry/input/Ledger"), (0, u "file"), (0, u "Ljava/nio/file/Path;"), (2, u "entries"), (0, u "Ljava/util/List;"), (72, .class_ 96), (0, u "java/lang/String"), (0, .class_ 98), (0, u "java/lang/StringBuilder"), (0, .methodref 97 3), (2, .methodref 97 103), (0, .nameAndType 104 105), (0, u "append"), (0, u "(Ljava/lang/String;)Ljava/lang/StringBuilder;"), (6, .methodref 97 113), (0, .nameAndType 114 115), (0, u "toString"), (0, u "()Ljava/lang/String;"), (50, .class_ 167), (0, u "com/example/covenantry/covenantry/input/Ledger$Entry"), (6, u "(Ljava/lang/Object;)Z"), (3, .methodref 95 179), (0, .nameAndType 180 174), (0, u "equals"), (0, .string 182), (0, u "("), (0, .methodref 95 184), (0, .nameAndType 185 186), (0, u "startsWith"), (0, u "(Ljava/lang/String;)Z"), (38, u "isUnder"), (36, u "DATE"), (0, u "Ljava/lang/String;"), (1, u "KIND"), (0, u "AMOUNT"), (0, u "CLAUSE"), (0, u "DESCRIPTION"), (14, u "(Ljava/lang/String;Ljava/lang/String;)Z")] 77

def k9c0 : Code := { maxStack := 3, maxLocals := 2, code := prog_18_method_5_code, exceptionTable := #[], attributes := #[] }
def k9m0 : Method := { name := "isUnder", desc := "(Ljava/lang/String;Ljava/lang/String;)Z", sig := { parameters := [(.object "java/lang/String"), (.object "java/lang/String")], returnType := some .boolean }, accessFlags := 9, code := some k9c0 }
/-- com/example/covenantry/covenantry/input/Ledger -/
def k9 : Class := { plain "com/example/covenantry/covenantry/input/Ledger" (some 8) with
  accessFlags := 49
  interfaces := #[]
  cf := some (fileOf pool9 14 #[.nestMembers #[166]] #[{ accessFlags := 9, nameIndex := 225, descriptorIndex := 283, attributes := #[] }] 49 2 #[] #[{ accessFlags := 18, nameIndex := 17, descriptorIndex := 18, attributes := #[] }, { accessFlags := 18, nameIndex := 21, descriptorIndex := 22, attributes := #[] }, { accessFlags := 26, nameIndex := 262, descriptorIndex := 263, attributes := #[] }, { accessFlags := 26, nameIndex := 265, descriptorIndex := 263, attributes := #[] }, { accessFlags := 26, nameIndex := 266, descriptorIndex := 263, attributes := #[] }, { accessFlags := 26, nameIndex := 267, descriptorIndex := 263, attributes := #[] }, { accessFlags := 26, nameIndex := 268, descriptorIndex := 263, attributes := #[] }])
  fields := #[{ name := "file", type := (.object "java/nio/file/Path"), accessFlags := 18, slot := 0, constantValue := 0 }, { name := "entries", type := (.object "java/util/List"), accessFlags := 18, slot := 1, constantValue := 0 }, { name := "DATE", type := (.object "java/lang/String"), accessFlags := 26, slot := 0, constantValue := 0 }, { name := "KIND", type := (.object "java/lang/String"), accessFlags := 26, slot := 1, constantValue := 0 }, { name := "AMOUNT", type := (.object "java/lang/String"), accessFlags := 26, slot := 2, constantValue := 0 }, { name := "CLAUSE", type := (.object "java/lang/String"), accessFlags := 26, slot := 3, constantValue := 0 }, { name := "DESCRIPTION", type := (.object "java/lang/String"), accessFlags := 26, slot := 4, constantValue := 0 }]
  methods := #[k9m0]
  instanceTypes := #[(.object "java/nio/file/Path"), (.object "java/util/List")]
  staticTypes := #[(.object "java/lang/String"), (.object "java/lang/String"), (.object "java/lang/String"), (.object "java/lang/String"), (.object "java/lang/String")]
  resolved := Array.replicate 361 none
  statics := none }

def pool10 : Array CpInfo := pool [(4, .class_ 6), (1, u "java/lang/Object"), (0, u "<init>"), (0, u "()V"), (5, .class_ 16), (1, u "java/lang/StringLatin1"), (104, u "$assertionsDisabled"), (0, u "Z"), (98, .class_ 223), (1, u "java/lang/StringLatin1$LinesSpliterator"), (57, u "equals"), (0, u "([B[B)Z"), (107, .class_ 391), (0, u "java/lang/StringLatin1$CharsSpliterator")] 3

def k10m0 : Method := { name := "<init>", desc := "()V", sig := { parameters := [], returnType := none }, accessFlags := 0, code := none }
def k10c1 : Code := { maxStack := 3, maxLocals := 3, code := jdk_43_method_13_code, exceptionTable := #[], attributes := #[] }
def k10m1 : Method := { name := "equals", desc := "([B[B)Z", sig := { parameters := [(.array .byte), (.array .byte)], returnType := some .boolean }, accessFlags := 9, code := some k10c1 }
/-- java/lang/StringLatin1 -/
def k10 : Class := { plain "java/lang/StringLatin1" (some 0) with
  accessFlags := 48
  interfaces := #[]
  cf := some (fileOf pool10 14 #[.nestMembers #[390, 221]] #[{ accessFlags := 0, nameIndex := 7, descriptorIndex := 8, attributes := #[] }, { accessFlags := 9, nameIndex := 281, descriptorIndex := 282, attributes := #[] }] 48 4 #[] #[{ accessFlags := 4120, nameIndex := 121, descriptorIndex := 122, attributes := #[] }])
  fields := #[{ name := "$assertionsDisabled", type := .boolean, accessFlags := 4120, slot := 0, constantValue := 0 }]
  methods := #[k10m0, k10m1]
  instanceTypes := #[]
  staticTypes := #[.boolean]
  resolved := Array.replicate 395 none
  statics := none }

def pool11 : Array CpInfo := pool [(6, .class_ 8), (1, u "java/lang/Object"), (0, u "<init>"), (0, u "()V"), (1, .class_ 14), (1, u "java/lang/StringUTF16"), (31, u "$assertionsDisabled"), (0, u "Z"), (13, u "HI_BYTE_SHIFT"), (0, u "I"), (2, u "LO_BYTE_SHIFT"), (49, .methodref 12 116), (0, .nameAndType 117 118), (0, u "compress"), (0, u "([CI[BII)I"), (3, u "([CII)[B"), (138, u "coderFromArrayLen"), (0, u "([BI)B"), (106, .class_ 371), (1, u "java/lang/StringUTF16$LinesSpliterator"), (58, u "MAX_LENGTH"), (196, .class_ 628), (0, u "java/lang/StringUTF16$CodePointsSpliterator"), (0, .class_ 630), (0, u "java/lang/StringUTF16$CharsSpliterator")] 4

def k11m0 : Method := { name := "<init>", desc := "()V", sig := { parameters := [], returnType := none }, accessFlags := 0, code := none }
def k11c1 : Code := { maxStack := 2, maxLocals := 2, code := jdk_52_method_15_code, exceptionTable := #[], attributes := #[] }
def k11m1 : Method := { name := "coderFromArrayLen", desc := "([BI)B", sig := { parameters := [(.array .byte), .int], returnType := some .byte }, accessFlags := 8, code := some k11c1 }
def k11c2 : Code := { maxStack := 5, maxLocals := 6, code := jdk_52_method_16_code, exceptionTable := #[], attributes := #[] }
def k11m2 : Method := { name := "compress", desc := "([CII)[B", sig := { parameters := [(.array .char), .int, .int], returnType := some (.array .byte) }, accessFlags := 9, code := some k11c2 }
def k11c3 : Code := { maxStack := 3, maxLocals := 7, code := jdk_52_method_21_code, exceptionTable := #[], attributes := #[] }
def k11m3 : Method := { name := "compress", desc := "([CI[BII)I", sig := { parameters := [(.array .char), .int, (.array .byte), .int, .int], returnType := some .int }, accessFlags := 9, code := some k11c3 }
/-- java/lang/StringUTF16 -/
def k11 : Class := { plain "java/lang/StringUTF16" (some 0) with
  accessFlags := 48
  interfaces := #[]
  cf := some (fileOf pool11 12 #[.nestMembers #[627, 629, 369]] #[{ accessFlags := 0, nameIndex := 9, descriptorIndex := 10, attributes := #[] }, { accessFlags := 8, nameIndex := 261, descriptorIndex := 262, attributes := #[] }, { accessFlags := 9, nameIndex := 117, descriptorIndex := 122, attributes := #[] }, { accessFlags := 9, nameIndex := 117, descriptorIndex := 118, attributes := #[] }] 48 6 #[] #[{ accessFlags := 26, nameIndex := 61, descriptorIndex := 62, attributes := #[] }, { accessFlags := 26, nameIndex := 65, descriptorIndex := 62, attributes := #[] }, { accessFlags := 24, nameIndex := 430, descriptorIndex := 62, attributes := #[] }, { accessFlags := 4120, nameIndex := 46, descriptorIndex := 47, attributes := #[] }])
  fields := #[{ name := "HI_BYTE_SHIFT", type := .int, accessFlags := 26, slot := 0, constantValue := 0 }, { name := "LO_BYTE_SHIFT", type := .int, accessFlags := 26, slot := 1, constantValue := 0 }, { name := "MAX_LENGTH", type := .int, accessFlags := 24, slot := 2, constantValue := 0 }, { name := "$assertionsDisabled", type := .boolean, accessFlags := 4120, slot := 3, constantValue := 0 }]
  methods := #[k11m0, k11m1, k11m2, k11m3]
  instanceTypes := #[]
  staticTypes := #[.int, .int, .int, .boolean]
  resolved := Array.replicate 635 none
  statics := none }

def pool12 : Array CpInfo := pool [(1, .class_ 2), (0, u "java/lang/Appendable"), (0, .class_ 4), (0, u "java/lang/Object")] 9

/-- java/lang/Appendable -/
def k12 : Class := { plain "java/lang/Appendable" (some 0) with
  accessFlags := 1537
  interfaces := #[]
  cf := some (fileOf pool12 1 #[] #[] 1537 3 #[] #[])
  fields := #[]
  methods := #[]
  instanceTypes := #[]
  staticTypes := #[]
  resolved := Array.replicate 14 none
  statics := none }

def pool13 : Array CpInfo := pool [(1, .class_ 2), (0, u "java/lang/String"), (0, .methodref 4 5), (0, .class_ 6), (0, .nameAndType 7 8), (0, u "java/lang/Object"), (0, u "<init>"), (0, u "()V"), (1, .class_ 12), (1, u "java/lang/AbstractStringBuilder"), (0, u "EMPTYVALUE"), (0, u "[B"), (0, .fieldref 10 16), (0, .nameAndType 17 14), (0, u "value"), (0, .fieldref 1 19), (0, .nameAndType 20 21), (0, u "COMPACT_STRINGS"), (0, u "Z"), (0, .fieldref 10 23), (0, .nameAndType 24 25), (0, u "coder"), (0, u "B"), (6, .methodref 1 33), (0, .nameAndType 34 35), (0, u "length"), (0, u "()I"), (4, .methodref 1 41), (0, .nameAndType 24 42), (0, u "()B"), (2, u "append"), (0, u "(Ljava/lang/String;)Ljava/lang/AbstractStringBuilder;"), (1, .class_ 49), (0, u "java/lang/CharSequence"), (19, u "(Ljava/lang/String;)V"), (5, u "maybeLatin1"), (3, .fieldref 10 80), (0, .nameAndType 81 82), (0, u "count"), (0, u "I"), (2, u "isLatin1"), (0, u "()Z"), (13, .methodref 10 101), (0, .nameAndType 102 103), (0, u "ensureCapacityInternal"), (0, u "(I)V"), (104, .methodref 10 209), (0, .nameAndType 210 211), (0, u "putStringAt"), (0, u "(ILjava/lang/String;)V"), (5, u "inflateIfNeededFor"), (2, .nameAndType 221 222), (0, u "getBytes"), (0, u "([BIB)V"), (174, .methodref 10 398), (0, .nameAndType 217 69), (0, .methodref 1 220), (3, u "()[B"), (40, .class_ 445), (0, u "java/lang/Appendable"), (106, u "getValue")] 56

def k13m0 : Method := { name := "<init>", desc := "()V", sig := { parameters := [], returnType := none }, accessFlags := 0, code := none }
def k13c1 : Code := { maxStack := 2, maxLocals := 2, code := jdk_68_method_2_code, exceptionTable := #[], attributes := #[] }
def k13m1 : Method := { name := "<init>", desc := "(I)V", sig := { parameters := [.int], returnType := none }, accessFlags := 0, code := some k13c1 }
def k13c2 : Code := { maxStack := 1, maxLocals := 1, code := jdk_68_method_6_code, exceptionTable := #[], attributes := #[] }
def k13m2 : Method := { name := "length", desc := "()I", sig := { parameters := [], returnType := some .int }, accessFlags := 1, code := some k13c2 }
def k13c3 : Code := { maxStack := 4, maxLocals := 3, code := jdk_68_method_9_code, exceptionTable := #[], attributes := #[] }
def k13m3 : Method := { name := "ensureCapacityInternal", desc := "(I)V", sig := { parameters := [.int], returnType := none }, accessFlags := 2, code := some k13c3 }
def k13c4 : Code := { maxStack := 3, maxLocals := 3, code := jdk_68_method_22_code, exceptionTable := #[], attributes := #[] }
def k13m4 : Method := { name := "append", desc := "(Ljava/lang/String;)Ljava/lang/AbstractStringBuilder;", sig := { parameters := [(.object "java/lang/String")], returnType := some (.object "java/lang/AbstractStringBuilder") }, accessFlags := 1, code := some k13c4 }
def k13c5 : Code := { maxStack := 1, maxLocals := 1, code := jdk_68_method_64_code, exceptionTable := #[], attributes := #[] }
def k13m5 : Method := { name := "getValue", desc := "()[B", sig := { parameters := [], returnType := some (.array .byte) }, accessFlags := 16, code := some k13c5 }
def k13c6 : Code := { maxStack := 1, maxLocals := 1, code := jdk_68_method_68_code, exceptionTable := #[], attributes := #[] }
def k13m6 : Method := { name := "isLatin1", desc := "()Z", sig := { parameters := [], returnType := some .boolean }, accessFlags := 16, code := some k13c6 }
def k13c7 : Code := { maxStack := 2, maxLocals := 2, code := jdk_68_method_71_code, exceptionTable := #[], attributes := #[] }
def k13m7 : Method := { name := "inflateIfNeededFor", desc := "(Ljava/lang/String;)V", sig := { parameters := [(.object "java/lang/String")], returnType := none }, accessFlags := 2, code := some k13c7 }
def k13c8 : Code := { maxStack := 4, maxLocals := 3, code := jdk_68_method_73_code, exceptionTable := #[], attributes := #[] }
def k13m8 : Method := { name := "putStringAt", desc := "(ILjava/lang/String;)V", sig := { parameters := [.int, (.object "java/lang/String")], returnType := none }, accessFlags := 2, code := some k13c8 }
/-- java/lang/AbstractStringBuilder -/
def k13 : Class := { plain "java/lang/AbstractStringBuilder" (some 0) with
  accessFlags := 1056
  interfaces := #[12, 4]
  cf := some (fileOf pool13 10 #[] #[{ accessFlags := 0, nameIndex := 7, descriptorIndex := 8, attributes := #[] }, { accessFlags := 0, nameIndex := 7, descriptorIndex := 103, attributes := #[] }, { accessFlags := 1, nameIndex := 34, descriptorIndex := 35, attributes := #[] }, { accessFlags := 2, nameIndex := 102, descriptorIndex := 103, attributes := #[] }, { accessFlags := 1, nameIndex := 45, descriptorIndex := 46, attributes := #[] }, { accessFlags := 16, nameIndex := 552, descriptorIndex := 403, attributes := #[] }, { accessFlags := 16, nameIndex := 85, descriptorIndex := 86, attributes := #[] }, { accessFlags := 2, nameIndex := 217, descriptorIndex := 69, attributes := #[] }, { accessFlags := 2, nameIndex := 210, descriptorIndex := 211, attributes := #[] }] 1056 4 #[444, 48] #[{ accessFlags := 0, nameIndex := 17, descriptorIndex := 14, attributes := #[] }, { accessFlags := 0, nameIndex := 24, descriptorIndex := 25, attributes := #[] }, { accessFlags := 0, nameIndex := 75, descriptorIndex := 21, attributes := #[] }, { accessFlags := 0, nameIndex := 81, descriptorIndex := 82, attributes := #[] }, { accessFlags := 26, nameIndex := 13, descriptorIndex := 14, attributes := #[] }])
  fields := #[{ name := "value", type := (.array .byte), accessFlags := 0, slot := 0, constantValue := 0 }, { name := "coder", type := .byte, accessFlags := 0, slot := 1, constantValue := 0 }, { name := "maybeLatin1", type := .boolean, accessFlags := 0, slot := 2, constantValue := 0 }, { name := "count", type := .int, accessFlags := 0, slot := 3, constantValue := 0 }, { name := "EMPTYVALUE", type := (.array .byte), accessFlags := 26, slot := 0, constantValue := 0 }]
  methods := #[k13m0, k13m1, k13m2, k13m3, k13m4, k13m5, k13m6, k13m7, k13m8]
  instanceTypes := #[(.array .byte), .byte, .boolean, .int]
  staticTypes := #[(.array .byte)]
  resolved := Array.replicate 609 none
  statics := none }

def pool14 : Array CpInfo := pool [(1, .methodref 2 3), (0, .class_ 4), (0, .nameAndType 5 6), (0, u "java/lang/AbstractStringBuilder"), (0, u "<init>"), (0, u "(I)V"), (11, .class_ 20), (1, u "java/lang/String"), (3, .class_ 26), (1, u "java/lang/StringBuilder"), (0, u "append"), (0, u "(Ljava/lang/String;)Ljava/lang/StringBuilder;"), (0, .methodref 2 30), (0, .nameAndType 27 31), (0, u "(Ljava/lang/String;)Ljava/lang/AbstractStringBuilder;"), (105, .methodref 18 138), (0, .nameAndType 5 139), (0, u "(Ljava/lang/StringBuilder;)V"), (5, u "()V"), (10, u "()I"), (186, .methodref 2 344), (0, .nameAndType 345 156), (0, u "length"), (3, .class_ 350), (0, u "java/lang/Appendable"), (0, .class_ 352), (0, u "java/io/Serializable"), (0, .class_ 354), (0, u "java/lang/Comparable"), (0, .class_ 356), (0, u "java/lang/CharSequence"), (0, u "serialVersionUID"), (0, u "J"), (40, u "toString"), (0, u "()Ljava/lang/String;")] 21

def k14c0 : Code := { maxStack := 2, maxLocals := 1, code := jdk_67_method_1_code, exceptionTable := #[], attributes := #[] }
def k14m0 : Method := { name := "<init>", desc := "()V", sig := { parameters := [], returnType := none }, accessFlags := 1, code := some k14c0 }
def k14c1 : Code := { maxStack := 2, maxLocals := 2, code := jdk_67_method_7_code, exceptionTable := #[], attributes := #[] }
def k14m1 : Method := { name := "append", desc := "(Ljava/lang/String;)Ljava/lang/StringBuilder;", sig := { parameters := [(.object "java/lang/String")], returnType := some (.object "java/lang/StringBuilder") }, accessFlags := 1, code := some k14c1 }
def k14c2 : Code := { maxStack := 3, maxLocals := 1, code := jdk_67_method_42_code, exceptionTable := #[], attributes := #[] }
def k14m2 : Method := { name := "toString", desc := "()Ljava/lang/String;", sig := { parameters := [], returnType := some (.object "java/lang/String") }, accessFlags := 1, code := some k14c2 }
def k14c3 : Code := { maxStack := 1, maxLocals := 1, code := jdk_67_method_93_code, exceptionTable := #[], attributes := #[] }
def k14m3 : Method := { name := "length", desc := "()I", sig := { parameters := [], returnType := some .int }, accessFlags := 4161, code := some k14c3 }
/-- java/lang/StringBuilder -/
def k14 : Class := { plain "java/lang/StringBuilder" (some 13) with
  accessFlags := 49
  interfaces := #[12, 2, 3, 4]
  cf := some (fileOf pool14 24 #[] #[{ accessFlags := 1, nameIndex := 5, descriptorIndex := 145, attributes := #[] }, { accessFlags := 1, nameIndex := 27, descriptorIndex := 28, attributes := #[] }, { accessFlags := 1, nameIndex := 399, descriptorIndex := 400, attributes := #[] }, { accessFlags := 4161, nameIndex := 345, descriptorIndex := 156, attributes := #[] }] 49 2 #[349, 351, 353, 355] #[{ accessFlags := 24, nameIndex := 357, descriptorIndex := 358, attributes := #[] }])
  fields := #[{ name := "serialVersionUID", type := .long, accessFlags := 24, slot := 0, constantValue := 0 }]
  methods := #[k14m0, k14m1, k14m2, k14m3]
  instanceTypes := #[(.array .byte), .byte, .boolean, .int]
  staticTypes := #[.long]
  resolved := Array.replicate 422 none
  statics := none }

def pool15 : Array CpInfo := pool [(2, .class_ 4), (1, u "java/lang/Object"), (0, u "<init>"), (0, u "()V"), (1, .class_ 10), (1, u "java/lang/System"), (0, u "allowSecurityManager"), (0, u "I"), (16, u "cons"), (0, u "Ljava/io/Console;"), (77, .class_ 110), (1, u "java/lang/System$CallersHolder"), (43, u "initialErrStream"), (0, u "Ljava/io/PrintStream;"), (19, u "security"), (0, u "Ljava/lang/SecurityManager;"), (31, .class_ 209), (0, u "java/lang/System$1"), (7, u "props"), (0, u "Ljava/util/Properties;"), (2, u "lineSeparator"), (0, u "Ljava/lang/String;"), (96, .class_ 321), (1, u "java/lang/System$LoggerFinder"), (5, .class_ 328), (0, u "java/lang/System$Logger"), (67, u "err"), (2, u "out"), (91, u "notSupportedJnuEncoding"), (15, u "in"), (17, u "initialIn"), (0, u "Ljava/io/InputStream;"), (35, u "bootLayer"), (0, u "Ljava/lang/ModuleLayer;"), (99, .class_ 664), (0, u "java/lang/System$2"), (9, u "NEVER"), (2, u "MAYBE"), (49, u "arraycopy"), (0, u "(Ljava/lang/Object;ILjava/lang/Object;II)V"), (72, .class_ 802), (0, u "java/lang/System$Logger$Level")] 31

def k15m0 : Method := { name := "<init>", desc := "()V", sig := { parameters := [], returnType := none }, accessFlags := 2, code := none }
def k15m1 : Method := { name := "arraycopy", desc := "(Ljava/lang/Object;ILjava/lang/Object;II)V", sig := { parameters := [(.object "java/lang/Object"), .int, (.object "java/lang/Object"), .int, .int], returnType := none }, accessFlags := 265, code := none }
/-- java/lang/System -/
def k15 : Class := { plain "java/lang/System" (some 0) with
  accessFlags := 49
  interfaces := #[]
  cf := some (fileOf pool15 8 #[.nestMembers #[319, 327, 801, 108, 663, 208]] #[{ accessFlags := 2, nameIndex := 5, descriptorIndex := 6, attributes := #[] }, { accessFlags := 265, nameIndex := 727, descriptorIndex := 728, attributes := #[] }] 49 2 #[] #[{ accessFlags := 25, nameIndex := 507, descriptorIndex := 526, attributes := #[] }, { accessFlags := 25, nameIndex := 399, descriptorIndex := 155, attributes := #[] }, { accessFlags := 25, nameIndex := 396, descriptorIndex := 155, attributes := #[] }, { accessFlags := 10, nameIndex := 525, descriptorIndex := 526, attributes := #[] }, { accessFlags := 26, nameIndex := 674, descriptorIndex := 12, attributes := #[] }, { accessFlags := 26, nameIndex := 677, descriptorIndex := 12, attributes := #[] }, { accessFlags := 10, nameIndex := 11, descriptorIndex := 12, attributes := #[] }, { accessFlags := 74, nameIndex := 175, descriptorIndex := 176, attributes := #[] }, { accessFlags := 10, nameIndex := 491, descriptorIndex := 222, attributes := #[] }, { accessFlags := 74, nameIndex := 29, descriptorIndex := 30, attributes := #[] }, { accessFlags := 74, nameIndex := 154, descriptorIndex := 155, attributes := #[] }, { accessFlags := 10, nameIndex := 217, descriptorIndex := 218, attributes := #[] }, { accessFlags := 10, nameIndex := 221, descriptorIndex := 222, attributes := #[] }, { accessFlags := 8, nameIndex := 562, descriptorIndex := 563, attributes := #[] }])
  fields := #[{ name := "in", type := (.object "java/io/InputStream"), accessFlags := 25, slot := 0, constantValue := 0 }, { name := "out", type := (.object "java/io/PrintStream"), accessFlags := 25, slot := 1, constantValue := 0 }, { name := "err", type := (.object "java/io/PrintStream"), accessFlags := 25, slot := 2, constantValue := 0 }, { name := "initialIn", type := (.object "java/io/InputStream"), accessFlags := 10, slot := 3, constantValue := 0 }, { name := "NEVER", type := .int, accessFlags := 26, slot := 4, constantValue := 0 }, { name := "MAYBE", type := .int, accessFlags := 26, slot := 5, constantValue := 0 }, { name := "allowSecurityManager", type := .int, accessFlags := 10, slot := 6, constantValue := 0 }, { name := "security", type := (.object "java/lang/SecurityManager"), accessFlags := 74, slot := 7, constantValue := 0 }, { name := "notSupportedJnuEncoding", type := (.object "java/lang/String"), accessFlags := 10, slot := 8, constantValue := 0 }, { name := "cons", type := (.object "java/io/Console"), accessFlags := 74, slot := 9, constantValue := 0 }, { name := "initialErrStream", type := (.object "java/io/PrintStream"), accessFlags := 74, slot := 10, constantValue := 0 }, { name := "props", type := (.object "java/util/Properties"), accessFlags := 10, slot := 11, constantValue := 0 }, { name := "lineSeparator", type := (.object "java/lang/String"), accessFlags := 10, slot := 12, constantValue := 0 }, { name := "bootLayer", type := (.object "java/lang/ModuleLayer"), accessFlags := 8, slot := 13, constantValue := 0 }]
  methods := #[k15m0, k15m1]
  instanceTypes := #[]
  staticTypes := #[(.object "java/io/InputStream"), (.object "java/io/PrintStream"), (.object "java/io/PrintStream"), (.object "java/io/InputStream"), .int, .int, .int, (.object "java/lang/SecurityManager"), (.object "java/lang/String"), (.object "java/io/Console"), (.object "java/io/PrintStream"), (.object "java/util/Properties"), (.object "java/lang/String"), (.object "java/lang/ModuleLayer")]
  resolved := Array.replicate 834 none
  statics := none }

def pool16 : Array CpInfo := pool [(2, .class_ 4), (1, u "java/lang/Object"), (0, u "<init>"), (0, u "()V"), (7, .class_ 16), (1, u "java/util/Arrays"), (57, .class_ 76), (1, u "java/util/Arrays$NaturalOrder"), (36, .class_ 115), (1, u "java/util/Arrays$LegacyMergeSort"), (1, u "Z"), (21, u "copyOfRange"), (10, .methodref 151 152), (0, .class_ 153), (0, .nameAndType 154 155), (0, u "java/lang/System"), (0, u "arraycopy"), (0, u "(Ljava/lang/Object;ILjava/lang/Object;II)V"), (148, .methodref 305 306), (0, .class_ 307), (0, .nameAndType 308 309), (0, u "java/lang/Math"), (0, u "min"), (0, u "(II)I"), (29, .methodref 14 340), (0, .nameAndType 341 342), (0, u "copyOfRangeByte"), (0, u "([BII)[B"), (0, .methodref 14 344), (0, .nameAndType 345 346), (0, u "checkLength"), (0, u "(II)V"), (28, .class_ 376), (0, u "java/util/Arrays$ArrayList"), (68, u "$assertionsDisabled"), (269, u "MIN_ARRAY_SORT_GRAN"), (0, u "I"), (2, u "INSERTIONSORT_THRESHOLD"), (255, .class_ 976), (0, u "java/util/Arrays$ArrayItr")] 52

def k16m0 : Method := { name := "<init>", desc := "()V", sig := { parameters := [], returnType := none }, accessFlags := 2, code := none }
def k16c1 : Code := { maxStack := 4, maxLocals := 2, code := jdk_65_method_131_code, exceptionTable := #[], attributes := #[] }
def k16m1 : Method := { name := "checkLength", desc := "(II)V", sig := { parameters := [.int, .int], returnType := none }, accessFlags := 10, code := some k16c1 }
def k16c2 : Code := { maxStack := 3, maxLocals := 3, code := jdk_65_method_132_code, exceptionTable := #[], attributes := #[] }
def k16m2 : Method := { name := "copyOfRange", desc := "([BII)[B", sig := { parameters := [(.array .byte), .int, .int], returnType := some (.array .byte) }, accessFlags := 9, code := some k16c2 }
def k16c3 : Code := { maxStack := 6, maxLocals := 5, code := jdk_65_method_133_code, exceptionTable := #[], attributes := #[] }
def k16m3 : Method := { name := "copyOfRangeByte", desc := "([BII)[B", sig := { parameters := [(.array .byte), .int, .int], returnType := some (.array .byte) }, accessFlags := 10, code := some k16c3 }
/-- java/util/Arrays -/
def k16 : Class := { plain "java/util/Arrays" (some 0) with
  accessFlags := 49
  interfaces := #[]
  cf := some (fileOf pool16 14 #[.nestMembers #[975, 375, 113, 74]] #[{ accessFlags := 2, nameIndex := 5, descriptorIndex := 6, attributes := #[] }, { accessFlags := 10, nameIndex := 345, descriptorIndex := 346, attributes := #[] }, { accessFlags := 9, nameIndex := 139, descriptorIndex := 342, attributes := #[] }, { accessFlags := 10, nameIndex := 341, descriptorIndex := 342, attributes := #[] }] 49 2 #[] #[{ accessFlags := 26, nameIndex := 715, descriptorIndex := 716, attributes := #[] }, { accessFlags := 26, nameIndex := 719, descriptorIndex := 716, attributes := #[] }, { accessFlags := 4120, nameIndex := 445, descriptorIndex := 117, attributes := #[] }])
  fields := #[{ name := "MIN_ARRAY_SORT_GRAN", type := .int, accessFlags := 26, slot := 0, constantValue := 0 }, { name := "INSERTIONSORT_THRESHOLD", type := .int, accessFlags := 26, slot := 1, constantValue := 0 }, { name := "$assertionsDisabled", type := .boolean, accessFlags := 4120, slot := 2, constantValue := 0 }]
  methods := #[k16m0, k16m1, k16m2, k16m3]
  instanceTypes := #[]
  staticTypes := #[.int, .int, .boolean]
  resolved := Array.replicate 1029 none
  statics := none }

def pool17 : Array CpInfo := pool [(1, .class_ 2), (0, u "java/lang/Math"), (1, .class_ 6), (1, u "java/lang/Object"), (0, u "<init>"), (0, u "()V"), (89, .class_ 100), (1, u "java/lang/Math$RandomNumberGeneratorHolder"), (71, u "negativeZeroFloatBits"), (0, u "J"), (2, u "negativeZeroDoubleBits"), (24, u "min"), (43, u "$assertionsDisabled"), (0, u "Z"), (88, u "(II)I"), (2, u "twoToTheDoubleScaleDown"), (0, u "D"), (4, u "twoToTheDoubleScaleUp"), (9, u "E"), (3, u "PI"), (2, u "TAU"), (2, u "DEGREES_TO_RADIANS"), (0, u "RADIANS_TO_DEGREES")] 94

def k17m0 : Method := { name := "<init>", desc := "()V", sig := { parameters := [], returnType := none }, accessFlags := 2, code := none }
def k17c1 : Code := { maxStack := 2, maxLocals := 2, code := jdk_29_method_69_code, exceptionTable := #[], attributes := #[] }
def k17m1 : Method := { name := "min", desc := "(II)I", sig := { parameters := [.int, .int], returnType := some .int }, accessFlags := 9, code := some k17c1 }
/-- java/lang/Math -/
def k17 : Class := { plain "java/lang/Math" (some 0) with
  accessFlags := 49
  interfaces := #[]
  cf := some (fileOf pool17 1 #[.nestMembers #[98]] #[{ accessFlags := 2, nameIndex := 7, descriptorIndex := 8, attributes := #[] }, { accessFlags := 9, nameIndex := 201, descriptorIndex := 335, attributes := #[] }] 49 4 #[] #[{ accessFlags := 25, nameIndex := 354, descriptorIndex := 339, attributes := #[] }, { accessFlags := 25, nameIndex := 358, descriptorIndex := 339, attributes := #[] }, { accessFlags := 25, nameIndex := 361, descriptorIndex := 339, attributes := #[] }, { accessFlags := 26, nameIndex := 364, descriptorIndex := 339, attributes := #[] }, { accessFlags := 26, nameIndex := 365, descriptorIndex := 339, attributes := #[] }, { accessFlags := 26, nameIndex := 172, descriptorIndex := 173, attributes := #[] }, { accessFlags := 26, nameIndex := 176, descriptorIndex := 173, attributes := #[] }, { accessFlags := 8, nameIndex := 344, descriptorIndex := 339, attributes := #[] }, { accessFlags := 8, nameIndex := 338, descriptorIndex := 339, attributes := #[] }, { accessFlags := 4120, nameIndex := 245, descriptorIndex := 246, attributes := #[] }])
  fields := #[{ name := "E", type := .double, accessFlags := 25, slot := 0, constantValue := 0 }, { name := "PI", type := .double, accessFlags := 25, slot := 1, constantValue := 0 }, { name := "TAU", type := .double, accessFlags := 25, slot := 2, constantValue := 0 }, { name := "DEGREES_TO_RADIANS", type := .double, accessFlags := 26, slot := 3, constantValue := 0 }, { name := "RADIANS_TO_DEGREES", type := .double, accessFlags := 26, slot := 4, constantValue := 0 }, { name := "negativeZeroFloatBits", type := .long, accessFlags := 26, slot := 5, constantValue := 0 }, { name := "negativeZeroDoubleBits", type := .long, accessFlags := 26, slot := 6, constantValue := 0 }, { name := "twoToTheDoubleScaleUp", type := .double, accessFlags := 8, slot := 7, constantValue := 0 }, { name := "twoToTheDoubleScaleDown", type := .double, accessFlags := 8, slot := 8, constantValue := 0 }, { name := "$assertionsDisabled", type := .boolean, accessFlags := 4120, slot := 9, constantValue := 0 }]
  methods := #[k17m0, k17m1]
  instanceTypes := #[]
  staticTypes := #[.double, .double, .double, .double, .double, .long, .long, .double, .double, .boolean]
  resolved := Array.replicate 460 none
  statics := none }

def pool18 : Array CpInfo := pool [(9, u "<init>"), (6, .class_ 18), (1, u "java/lang/Object"), (0, u "()V"), (1, .class_ 23), (1, u "jdk/internal/util/ArraysSupport"), (0, u "LOG2_ARRAY_LONG_INDEX_SCALE"), (0, u "I"), (2, u "U"), (0, u "Ljdk/internal/misc/Unsafe;"), (8, u "BIG_ENDIAN"), (0, u "Z"), (8, u "LOG2_BYTE_BIT_SIZE"), (4, u "LOG2_ARRAY_INT_INDEX_SCALE"), (54, u "JLA"), (0, u "Ljdk/internal/access/JavaLangAccess;"), (11, u "LOG2_ARRAY_BOOLEAN_INDEX_SCALE"), (9, u "LOG2_ARRAY_BYTE_INDEX_SCALE"), (5, u "LOG2_ARRAY_CHAR_INDEX_SCALE"), (5, u "LOG2_ARRAY_SHORT_INDEX_SCALE"), (5, u "mismatch"), (12, u "LOG2_ARRAY_FLOAT_INDEX_SCALE"), (24, u "LOG2_ARRAY_DOUBLE_INDEX_SCALE"), (89, u "T_BOOLEAN"), (2, u "T_CHAR"), (1, u "T_FLOAT"), (1, u "T_DOUBLE"), (1, u "T_BYTE"), (1, u "T_SHORT"), (1, u "T_INT"), (1, u "T_LONG"), (1, u "SOFT_MAX_ARRAY_LENGTH"), (42, u "([BI[BII)I")] 40

def k18m0 : Method := { name := "<init>", desc := "()V", sig := { parameters := [], returnType := none }, accessFlags := 2, code := none }
def k18c1 : Code := { maxStack := 8, maxLocals := 8, code := jdk_48_method_14_code, exceptionTable := #[], attributes := #[] }
def k18m1 : Method := { name := "mismatch", desc := "([BI[BII)I", sig := { parameters := [(.array .byte), .int, (.array .byte), .int, .int], returnType := some .int }, accessFlags := 9, code := some k18c1 }
/-- jdk/internal/util/ArraysSupport -/
def k18 : Class := { plain "jdk/internal/util/ArraysSupport" (some 0) with
  accessFlags := 33
  interfaces := #[]
  cf := some (fileOf pool18 21 #[] #[{ accessFlags := 2, nameIndex := 9, descriptorIndex := 19, attributes := #[] }, { accessFlags := 9, nameIndex := 149, descriptorIndex := 337, attributes := #[] }] 33 16 #[] #[{ accessFlags := 24, nameIndex := 28, descriptorIndex := 29, attributes := #[] }, { accessFlags := 26, nameIndex := 38, descriptorIndex := 39, attributes := #[] }, { accessFlags := 25, nameIndex := 121, descriptorIndex := 25, attributes := #[] }, { accessFlags := 25, nameIndex := 131, descriptorIndex := 25, attributes := #[] }, { accessFlags := 25, nameIndex := 137, descriptorIndex := 25, attributes := #[] }, { accessFlags := 25, nameIndex := 143, descriptorIndex := 25, attributes := #[] }, { accessFlags := 25, nameIndex := 53, descriptorIndex := 25, attributes := #[] }, { accessFlags := 25, nameIndex := 24, descriptorIndex := 25, attributes := #[] }, { accessFlags := 25, nameIndex := 162, descriptorIndex := 25, attributes := #[] }, { accessFlags := 25, nameIndex := 187, descriptorIndex := 25, attributes := #[] }, { accessFlags := 26, nameIndex := 48, descriptorIndex := 25, attributes := #[] }, { accessFlags := 25, nameIndex := 277, descriptorIndex := 25, attributes := #[] }, { accessFlags := 25, nameIndex := 280, descriptorIndex := 25, attributes := #[] }, { accessFlags := 25, nameIndex := 282, descriptorIndex := 25, attributes := #[] }, { accessFlags := 25, nameIndex := 284, descriptorIndex := 25, attributes := #[] }, { accessFlags := 25, nameIndex := 286, descriptorIndex := 25, attributes := #[] }, { accessFlags := 25, nameIndex := 288, descriptorIndex := 25, attributes := #[] }, { accessFlags := 25, nameIndex := 290, descriptorIndex := 25, attributes := #[] }, { accessFlags := 25, nameIndex := 292, descriptorIndex := 25, attributes := #[] }, { accessFlags := 26, nameIndex := 108, descriptorIndex := 109, attributes := #[] }, { accessFlags := 25, nameIndex := 294, descriptorIndex := 25, attributes := #[] }])
  fields := #[{ name := "U", type := (.object "jdk/internal/misc/Unsafe"), accessFlags := 24, slot := 0, constantValue := 0 }, { name := "BIG_ENDIAN", type := .boolean, accessFlags := 26, slot := 1, constantValue := 0 }, { name := "LOG2_ARRAY_BOOLEAN_INDEX_SCALE", type := .int, accessFlags := 25, slot := 2, constantValue := 0 }, { name := "LOG2_ARRAY_BYTE_INDEX_SCALE", type := .int, accessFlags := 25, slot := 3, constantValue := 0 }, { name := "LOG2_ARRAY_CHAR_INDEX_SCALE", type := .int, accessFlags := 25, slot := 4, constantValue := 0 }, { name := "LOG2_ARRAY_SHORT_INDEX_SCALE", type := .int, accessFlags := 25, slot := 5, constantValue := 0 }, { name := "LOG2_ARRAY_INT_INDEX_SCALE", type := .int, accessFlags := 25, slot := 6, constantValue := 0 }, { name := "LOG2_ARRAY_LONG_INDEX_SCALE", type := .int, accessFlags := 25, slot := 7, constantValue := 0 }, { name := "LOG2_ARRAY_FLOAT_INDEX_SCALE", type := .int, accessFlags := 25, slot := 8, constantValue := 0 }, { name := "LOG2_ARRAY_DOUBLE_INDEX_SCALE", type := .int, accessFlags := 25, slot := 9, constantValue := 0 }, { name := "LOG2_BYTE_BIT_SIZE", type := .int, accessFlags := 26, slot := 10, constantValue := 0 }, { name := "T_BOOLEAN", type := .int, accessFlags := 25, slot := 11, constantValue := 0 }, { name := "T_CHAR", type := .int, accessFlags := 25, slot := 12, constantValue := 0 }, { name := "T_FLOAT", type := .int, accessFlags := 25, slot := 13, constantValue := 0 }, { name := "T_DOUBLE", type := .int, accessFlags := 25, slot := 14, constantValue := 0 }, { name := "T_BYTE", type := .int, accessFlags := 25, slot := 15, constantValue := 0 }, { name := "T_SHORT", type := .int, accessFlags := 25, slot := 16, constantValue := 0 }, { name := "T_INT", type := .int, accessFlags := 25, slot := 17, constantValue := 0 }, { name := "T_LONG", type := .int, accessFlags := 25, slot := 18, constantValue := 0 }, { name := "JLA", type := (.object "jdk/internal/access/JavaLangAccess"), accessFlags := 26, slot := 19, constantValue := 0 }, { name := "SOFT_MAX_ARRAY_LENGTH", type := .int, accessFlags := 25, slot := 20, constantValue := 0 }]
  methods := #[k18m0, k18m1]
  instanceTypes := #[]
  staticTypes := #[(.object "jdk/internal/misc/Unsafe"), .boolean, .int, .int, .int, .int, .int, .int, .int, .int, .int, .int, .int, .int, .int, .int, .int, .int, .int, (.object "jdk/internal/access/JavaLangAccess"), .int]
  resolved := Array.replicate 378 none
  statics := none }

def pool19 : Array CpInfo := pool [(2, .class_ 4), (1, u "java/lang/Object"), (0, u "<init>"), (0, u "()V"), (17, .class_ 26), (1, u "jdk/internal/util/Preconditions"), (28, .class_ 56), (0, u "jdk/internal/util/Preconditions$4"), (57, .class_ 115), (0, u "jdk/internal/util/Preconditions$1"), (7, u "SIOOBE_FORMATTER"), (0, u "Ljava/util/function/BiFunction;"), (0, .class_ 126), (0, u "jdk/internal/util/Preconditions$2"), (3, u "AIOOBE_FORMATTER"), (0, .class_ 132), (0, u "jdk/internal/util/Preconditions$3"), (3, u "IOOBE_FORMATTER")] 57

def k19m0 : Method := { name := "<init>", desc := "()V", sig := { parameters := [], returnType := none }, accessFlags := 1, code := none }
/-- jdk/internal/util/Preconditions -/
def k19 : Class := { plain "jdk/internal/util/Preconditions" (some 0) with
  accessFlags := 33
  interfaces := #[]
  cf := some (fileOf pool19 24 #[.nestMembers #[55, 131, 125, 114]] #[{ accessFlags := 1, nameIndex := 5, descriptorIndex := 6, attributes := #[] }] 33 2 #[] #[{ accessFlags := 25, nameIndex := 123, descriptorIndex := 124, attributes := #[] }, { accessFlags := 25, nameIndex := 130, descriptorIndex := 124, attributes := #[] }, { accessFlags := 25, nameIndex := 136, descriptorIndex := 124, attributes := #[] }])
  fields := #[{ name := "SIOOBE_FORMATTER", type := (.object "java/util/function/BiFunction"), accessFlags := 25, slot := 0, constantValue := 0 }, { name := "AIOOBE_FORMATTER", type := (.object "java/util/function/BiFunction"), accessFlags := 25, slot := 1, constantValue := 0 }, { name := "IOOBE_FORMATTER", type := (.object "java/util/function/BiFunction"), accessFlags := 25, slot := 2, constantValue := 0 }]
  methods := #[k19m0]
  instanceTypes := #[]
  staticTypes := #[(.object "java/util/function/BiFunction"), (.object "java/util/function/BiFunction"), (.object "java/util/function/BiFunction")]
  resolved := Array.replicate 194 none
  statics := some 1 }

def pool20 : Array CpInfo := pool [(1, u "java/lang/Cloneable"), (0, .class_ 1), (0, u "java/lang/Object"), (0, .class_ 3)] 3

/-- java/lang/Cloneable -/
def k20 : Class := { plain "java/lang/Cloneable" (some 0) with
  accessFlags := 1537
  interfaces := #[]
  cf := some (fileOf pool20 2 #[] #[] 1537 4 #[] #[])
  fields := #[]
  methods := #[]
  instanceTypes := #[]
  staticTypes := #[]
  resolved := Array.replicate 8 none
  statics := none }

/-- the primitive byte -/
def k21 : Class := { plain "byte" none with kind := .primitive 'B', accessFlags := 0x411 }
/-- [B -/
def k22 : Class := { plain "[B" (some 0) with kind := .array 21 .byte, interfaces := #[20, 2], accessFlags := 1041 }

/-- the primitive char -/
def k23 : Class := { plain "char" none with kind := .primitive 'C', accessFlags := 0x411 }
/-- [C -/
def k24 : Class := { plain "[C" (some 0) with kind := .array 23 .char, interfaces := #[20, 2], accessFlags := 1041 }

/-- the primitive int -/
def k25 : Class := { plain "int" none with kind := .primitive 'I', accessFlags := 0x411 }
/-- [I -/
def k26 : Class := { plain "[I" (some 0) with kind := .array 25 .int, interfaces := #[20, 2], accessFlags := 1041 }

def heap : Heap := #[{ cls := 7, slots := #[.long 0, .int 1, .null, .int 0, .null, .int 0, .int 0], vm := .statics 7 },
  { cls := 19, slots := #[.null, .null, .null], vm := .statics 19 }]
def classes : Array Class := #[k0, k1, k2, k3, k4, k5, k6, k7, k8, k9, k10, k11, k12, k13, k14, k15, k16, k17, k18, k19, k20, k21, k22, k23, k24, k25, k26]
def interned : List (Array UInt16 × Addr) := []
def slotsUsed : Nat := 10
def theMethod : MethodId := ⟨1, 1⟩
def args0 : Array Value := #[.int 5, .int 5, .int 5]
def aboutOver (below : List Frame) : State where
  vm := { classes := classes, interned := interned.toArray }
  heap := heap
  slotsUsed := slotsUsed
  threads := #[{ frames := .invoking theMethod args0 :: below }]
def below0 : List Frame := [.native { method := ⟨0, 0⟩, args := #[] }]
def about1 : State := aboutOver below0
def p0 : Program := .bare "" "" ""
def e0 : Env := launch0.env 0 0 0
theorem w_frames : about1.frames = Frame.invoking theMethod args0 :: below0 := rfl
set_option maxRecDepth 65536 in
theorem w_args : argsFit about1.vm theMethod args0 = true := by decide +kernel
set_option maxRecDepth 65536 in
theorem w_heap : heapFits about1 = true := by decide +kernel
set_option maxRecDepth 65536 in
theorem w_runnable : about1.curStatus? = some .runnable := by decide +kernel
set_option maxRecDepth 65536 in
theorem w_alone : about1.alone = true := by decide +kernel
set_option maxRecDepth 65536 in
theorem w_named : about1.methodNamed? x = some theMethod := by decide +kernel
set_option maxRecDepth 65536 in
theorem w_hears : about1.hears theMethod below0 = true := by decide +kernel
set_option maxRecDepth 65536 in
theorem w_ripe : about1.ripe theMethod args0 below0 = true := by decide +kernel
theorem w_running : about1.status = .running := rfl
set_option maxRecDepth 65536 in
theorem w_room : about1.hasRoom e0.platform room_1 = true :=
  launch0.hasRoom_least _ room_1 (by decide +kernel) (by decide +kernel) (by decide +kernel) (by decide +kernel) (by decide +kernel) (by decide +kernel)
theorem allAtoms_all (ts : List Jvm.Cond) (a : Array Jvm.Value) (st : Jvm.State) : (allAtoms ts).before a st = ts.all (fun c => c.before a st) := by
  induction ts with
  | nil => rfl
  | cons c t ih =>
    show (Jvm.Cond.and c (allAtoms t)).before a st = _
    rw [Jvm.Cond.before_and, ih, List.all_cons]
def words1 : List Jvm.Cond := Jvm.Cond.code x code maxLocals ret :: tables_1
/-- a 'code' word, met by the world's own term for the bytes: nothing is compared byte by byte -/
theorem code_word {y : MethodName} {bytes : ByteArray} {mx : Nat} {rt : Option FieldType} {a : Array Value} {s : State} {m : MethodId} {meth : Method} {c : Code} (h1 : s.methodNamed? y = some m) (h2 : s.vm.method? m = some meth) (h3 : meth.code = some c) (h4 : c.code = bytes)
    (h5 : (c.maxLocals == mx && c.exceptionTable.isEmpty && decide (c.maxStack ≤ mostOperands) && decide (meth.sig.returnType = rt) && !meth.locks && decide (parseMethodDescriptor y.desc = some meth.sig)) = true) : (Jvm.Cond.code y bytes mx rt).before a s = true := by
  simp only [Bool.and_eq_true, beq_iff_eq, Bool.not_eq_true', decide_eq_true_eq] at h5
  obtain ⟨⟨⟨⟨⟨g1, g2⟩, g3⟩, g4⟩, g5⟩, g6⟩ := h5
  simp [Cond.before, Cond.holds, Cond.value, h1, h2, h3, h4, g1, g2, g3, g4, g5, g6]
def isCode : Jvm.Cond → Bool
  | .code _ _ _ _ => true
  | _ => false
theorem all_split {L : List Jvm.Cond} {P : Jvm.Cond → Bool} (h1 : L.all (fun c => isCode c || P c) = true) (h2 : ∀ c ∈ L.filter isCode, P c = true) : L.all P = true := by
  refine List.all_eq_true.mpr fun c hc => ?_
  have h := List.all_eq_true.mp h1 c hc
  rcases Bool.eq_false_or_eq_true (isCode c) with hi | hi
  · exact h2 c (List.mem_filter.mpr ⟨hc, hi⟩)
  · simpa [hi] using h
set_option maxRecDepth 65536 in
theorem w_c0 : (Jvm.Cond.code x code maxLocals ret).before args0 about1 = true := code_word (m := ⟨1, 1⟩) (meth := k1m1) (c := k1c1) (by decide +kernel) rfl rfl rfl (by decide +kernel)
set_option maxRecDepth 65536 in
theorem w_c1 : (Jvm.Cond.code ({ cls := "com/example/covenantry/covenantry/input/LedgerIsUnderPinLaw", name := "mk", desc := "(CCCCI)Ljava/lang/String;" } : Jvm.MethodName) method_3_code (5 : Nat) (Option.some (Jvm.ClassFile.FieldType.object "java/lang/String"))).before args0 about1 = true := code_word (m := ⟨1, 2⟩) (meth := k1m2) (c := k1c2) (by decide +kernel) rfl rfl rfl (by decide +kernel)
set_option maxRecDepth 65536 in
theorem w_c2 : (Jvm.Cond.code ({ cls := "java/lang/String", name := "<init>", desc := "([C)V" } : Jvm.MethodName) jdk_42_method_3_code (2 : Nat) (Option.none : Option Jvm.ClassFile.FieldType)).before args0 about1 = true := code_word (m := ⟨7, 1⟩) (meth := k7m1) (c := k7c1) (by decide +kernel) rfl rfl rfl (by decide +kernel)
set_option maxRecDepth 65536 in
theorem w_c3 : (Jvm.Cond.code ({ cls := "java/lang/String", name := "<init>", desc := "([CIILjava/lang/Void;)V" } : Jvm.MethodName) jdk_42_method_149_code (6 : Nat) (Option.none : Option Jvm.ClassFile.FieldType)).before args0 about1 = true := code_word (m := ⟨7, 8⟩) (meth := k7m8) (c := k7c8) (by decide +kernel) rfl rfl rfl (by decide +kernel)
set_option maxRecDepth 65536 in
theorem w_c4 : (Jvm.Cond.code ({ cls := "java/lang/Object", name := "<init>", desc := "()V" } : Jvm.MethodName) object_method_1_code (1 : Nat) (Option.none : Option Jvm.ClassFile.FieldType)).before args0 about1 = true := code_word (m := ⟨0, 0⟩) (meth := k0m0) (c := k0c0) (by decide +kernel) rfl rfl rfl (by decide +kernel)
set_option maxRecDepth 65536 in
theorem w_c5 : (Jvm.Cond.code ({ cls := "com/example/covenantry/covenantry/input/Ledger", name := "isUnder", desc := "(Ljava/lang/String;Ljava/lang/String;)Z" } : Jvm.MethodName) prog_18_method_5_code (2 : Nat) (Option.some Jvm.ClassFile.FieldType.boolean)).before args0 about1 = true := code_word (m := ⟨9, 0⟩) (meth := k9m0) (c := k9c0) (by decide +kernel) rfl rfl rfl (by decide +kernel)
set_option maxRecDepth 65536 in
theorem w_c6 : (Jvm.Cond.code ({ cls := "java/lang/String", name := "equals", desc := "(Ljava/lang/Object;)Z" } : Jvm.MethodName) jdk_42_method_66_code (3 : Nat) (Option.some Jvm.ClassFile.FieldType.boolean)).before args0 about1 = true := code_word (m := ⟨7, 4⟩) (meth := k7m4) (c := k7c4) (by decide +kernel) rfl rfl rfl (by decide +kernel)
set_option maxRecDepth 65536 in
theorem w_c7 : (Jvm.Cond.code ({ cls := "java/lang/StringLatin1", name := "equals", desc := "([B[B)Z" } : Jvm.MethodName) jdk_43_method_13_code (3 : Nat) (Option.some Jvm.ClassFile.FieldType.boolean)).before args0 about1 = true := code_word (m := ⟨10, 1⟩) (meth := k10m1) (c := k10c1) (by decide +kernel) rfl rfl rfl (by decide +kernel)
set_option maxRecDepth 65536 in
theorem w_c8 : (Jvm.Cond.code ({ cls := "java/lang/StringUTF16", name := "compress", desc := "([CII)[B" } : Jvm.MethodName) jdk_52_method_16_code (6 : Nat) (Option.some (Jvm.ClassFile.FieldType.array Jvm.ClassFile.FieldType.byte))).before args0 about1 = true := code_word (m := ⟨11, 2⟩) (meth := k11m2) (c := k11c2) (by decide +kernel) rfl rfl rfl (by decide +kernel)
set_option maxRecDepth 65536 in
theorem w_c9 : (Jvm.Cond.code ({ cls := "java/lang/StringUTF16", name := "compress", desc := "([CI[BII)I" } : Jvm.MethodName) jdk_52_method_21_code (7 : Nat) (Option.some Jvm.ClassFile.FieldType.int)).before args0 about1 = true := code_word (m := ⟨11, 3⟩) (meth := k11m3) (c := k11c3) (by decide +kernel) rfl rfl rfl (by decide +kernel)
set_option maxRecDepth 65536 in
theorem w_c10 : (Jvm.Cond.code ({ cls := "java/lang/StringUTF16", name := "coderFromArrayLen", desc := "([BI)B" } : Jvm.MethodName) jdk_52_method_15_code (2 : Nat) (Option.some Jvm.ClassFile.FieldType.byte)).before args0 about1 = true := code_word (m := ⟨11, 1⟩) (meth := k11m1) (c := k11c1) (by decide +kernel) rfl rfl rfl (by decide +kernel)
set_option maxRecDepth 65536 in
theorem w_c11 : (Jvm.Cond.code ({ cls := "java/lang/StringBuilder", name := "<init>", desc := "()V" } : Jvm.MethodName) jdk_67_method_1_code (1 : Nat) (Option.none : Option Jvm.ClassFile.FieldType)).before args0 about1 = true := code_word (m := ⟨14, 0⟩) (meth := k14m0) (c := k14c0) (by decide +kernel) rfl rfl rfl (by decide +kernel)
set_option maxRecDepth 65536 in
theorem w_c12 : (Jvm.Cond.code ({ cls := "java/lang/AbstractStringBuilder", name := "<init>", desc := "(I)V" } : Jvm.MethodName) jdk_68_method_2_code (2 : Nat) (Option.none : Option Jvm.ClassFile.FieldType)).before args0 about1 = true := code_word (m := ⟨13, 1⟩) (meth := k13m1) (c := k13c1) (by decide +kernel) rfl rfl rfl (by decide +kernel)
set_option maxRecDepth 65536 in
theorem w_c13 : (Jvm.Cond.code ({ cls := "java/lang/StringBuilder", name := "append", desc := "(Ljava/lang/String;)Ljava/lang/StringBuilder;" } : Jvm.MethodName) jdk_67_method_7_code (2 : Nat) (Option.some (Jvm.ClassFile.FieldType.object "java/lang/StringBuilder"))).before args0 about1 = true := code_word (m := ⟨14, 1⟩) (meth := k14m1) (c := k14c1) (by decide +kernel) rfl rfl rfl (by decide +kernel)
set_option maxRecDepth 65536 in
theorem w_c14 : (Jvm.Cond.code ({ cls := "java/lang/AbstractStringBuilder", name := "append", desc := "(Ljava/lang/String;)Ljava/lang/AbstractStringBuilder;" } : Jvm.MethodName) jdk_68_method_22_code (3 : Nat) (Option.some (Jvm.ClassFile.FieldType.object "java/lang/AbstractStringBuilder"))).before args0 about1 = true := code_word (m := ⟨13, 4⟩) (meth := k13m4) (c := k13c4) (by decide +kernel) rfl rfl rfl (by decide +kernel)
set_option maxRecDepth 65536 in
theorem w_c15 : (Jvm.Cond.code ({ cls := "java/lang/String", name := "length", desc := "()I" } : Jvm.MethodName) jdk_42_method_54_code (1 : Nat) (Option.some Jvm.ClassFile.FieldType.int)).before args0 about1 = true := code_word (m := ⟨7, 3⟩) (meth := k7m3) (c := k7c3) (by decide +kernel) rfl rfl rfl (by decide +kernel)
set_option maxRecDepth 65536 in
theorem w_c16 : (Jvm.Cond.code ({ cls := "java/lang/String", name := "coder", desc := "()B" } : Jvm.MethodName) jdk_42_method_152_code (1 : Nat) (Option.some Jvm.ClassFile.FieldType.byte)).before args0 about1 = true := code_word (m := ⟨7, 10⟩) (meth := k7m10) (c := k7c10) (by decide +kernel) rfl rfl rfl (by decide +kernel)
set_option maxRecDepth 65536 in
theorem w_c17 : (Jvm.Cond.code ({ cls := "java/lang/AbstractStringBuilder", name := "ensureCapacityInternal", desc := "(I)V" } : Jvm.MethodName) jdk_68_method_9_code (3 : Nat) (Option.none : Option Jvm.ClassFile.FieldType)).before args0 about1 = true := code_word (m := ⟨13, 3⟩) (meth := k13m3) (c := k13c3) (by decide +kernel) rfl rfl rfl (by decide +kernel)
set_option maxRecDepth 65536 in
theorem w_c18 : (Jvm.Cond.code ({ cls := "java/lang/AbstractStringBuilder", name := "putStringAt", desc := "(ILjava/lang/String;)V" } : Jvm.MethodName) jdk_68_method_73_code (3 : Nat) (Option.none : Option Jvm.ClassFile.FieldType)).before args0 about1 = true := code_word (m := ⟨13, 8⟩) (meth := k13m8) (c := k13c8) (by decide +kernel) rfl rfl rfl (by decide +kernel)
set_option maxRecDepth 65536 in
theorem w_c19 : (Jvm.Cond.code ({ cls := "java/lang/AbstractStringBuilder", name := "inflateIfNeededFor", desc := "(Ljava/lang/String;)V" } : Jvm.MethodName) jdk_68_method_71_code (2 : Nat) (Option.none : Option Jvm.ClassFile.FieldType)).before args0 about1 = true := code_word (m := ⟨13, 7⟩) (meth := k13m7) (c := k13c7) (by decide +kernel) rfl rfl rfl (by decide +kernel)
set_option maxRecDepth 65536 in
theorem w_c20 : (Jvm.Cond.code ({ cls := "java/lang/String", name := "getBytes", desc := "([BIB)V" } : Jvm.MethodName) jdk_42_method_147_code (4 : Nat) (Option.none : Option Jvm.ClassFile.FieldType)).before args0 about1 = true := code_word (m := ⟨7, 7⟩) (meth := k7m7) (c := k7c7) (by decide +kernel) rfl rfl rfl (by decide +kernel)
set_option maxRecDepth 65536 in
theorem w_c21 : (Jvm.Cond.code ({ cls := "java/lang/StringBuilder", name := "toString", desc := "()Ljava/lang/String;" } : Jvm.MethodName) jdk_67_method_42_code (1 : Nat) (Option.some (Jvm.ClassFile.FieldType.object "java/lang/String"))).before args0 about1 = true := code_word (m := ⟨14, 2⟩) (meth := k14m2) (c := k14c2) (by decide +kernel) rfl rfl rfl (by decide +kernel)
set_option maxRecDepth 65536 in
theorem w_c22 : (Jvm.Cond.code ({ cls := "java/lang/String", name := "<init>", desc := "(Ljava/lang/StringBuilder;)V" } : Jvm.MethodName) jdk_42_method_53_code (2 : Nat) (Option.none : Option Jvm.ClassFile.FieldType)).before args0 about1 = true := code_word (m := ⟨7, 2⟩) (meth := k7m2) (c := k7c2) (by decide +kernel) rfl rfl rfl (by decide +kernel)
set_option maxRecDepth 65536 in
theorem w_c23 : (Jvm.Cond.code ({ cls := "java/lang/String", name := "<init>", desc := "(Ljava/lang/AbstractStringBuilder;Ljava/lang/Void;)V" } : Jvm.MethodName) jdk_42_method_150_code (5 : Nat) (Option.none : Option Jvm.ClassFile.FieldType)).before args0 about1 = true := code_word (m := ⟨7, 9⟩) (meth := k7m9) (c := k7c9) (by decide +kernel) rfl rfl rfl (by decide +kernel)
set_option maxRecDepth 65536 in
theorem w_c24 : (Jvm.Cond.code ({ cls := "java/lang/AbstractStringBuilder", name := "getValue", desc := "()[B" } : Jvm.MethodName) jdk_68_method_64_code (1 : Nat) (Option.some (Jvm.ClassFile.FieldType.array Jvm.ClassFile.FieldType.byte))).before args0 about1 = true := code_word (m := ⟨13, 5⟩) (meth := k13m5) (c := k13c5) (by decide +kernel) rfl rfl rfl (by decide +kernel)
set_option maxRecDepth 65536 in
theorem w_c25 : (Jvm.Cond.code ({ cls := "java/lang/StringBuilder", name := "length", desc := "()I" } : Jvm.MethodName) jdk_67_method_93_code (1 : Nat) (Option.some Jvm.ClassFile.FieldType.int)).before args0 about1 = true := code_word (m := ⟨14, 3⟩) (meth := k14m3) (c := k14c3) (by decide +kernel) rfl rfl rfl (by decide +kernel)
set_option maxRecDepth 65536 in
theorem w_c26 : (Jvm.Cond.code ({ cls := "java/lang/AbstractStringBuilder", name := "length", desc := "()I" } : Jvm.MethodName) jdk_68_method_6_code (1 : Nat) (Option.some Jvm.ClassFile.FieldType.int)).before args0 about1 = true := code_word (m := ⟨13, 2⟩) (meth := k13m2) (c := k13c2) (by decide +kernel) rfl rfl rfl (by decide +kernel)
set_option maxRecDepth 65536 in
theorem w_c27 : (Jvm.Cond.code ({ cls := "java/lang/AbstractStringBuilder", name := "isLatin1", desc := "()Z" } : Jvm.MethodName) jdk_68_method_68_code (1 : Nat) (Option.some Jvm.ClassFile.FieldType.boolean)).before args0 about1 = true := code_word (m := ⟨13, 6⟩) (meth := k13m6) (c := k13c6) (by decide +kernel) rfl rfl rfl (by decide +kernel)
set_option maxRecDepth 65536 in
theorem w_c28 : (Jvm.Cond.code ({ cls := "java/util/Arrays", name := "copyOfRange", desc := "([BII)[B" } : Jvm.MethodName) jdk_65_method_132_code (3 : Nat) (Option.some (Jvm.ClassFile.FieldType.array Jvm.ClassFile.FieldType.byte))).before args0 about1 = true := code_word (m := ⟨16, 2⟩) (meth := k16m2) (c := k16c2) (by decide +kernel) rfl rfl rfl (by decide +kernel)
set_option maxRecDepth 65536 in
theorem w_c29 : (Jvm.Cond.code ({ cls := "java/util/Arrays", name := "copyOfRangeByte", desc := "([BII)[B" } : Jvm.MethodName) jdk_65_method_133_code (5 : Nat) (Option.some (Jvm.ClassFile.FieldType.array Jvm.ClassFile.FieldType.byte))).before args0 about1 = true := code_word (m := ⟨16, 3⟩) (meth := k16m3) (c := k16c3) (by decide +kernel) rfl rfl rfl (by decide +kernel)
set_option maxRecDepth 65536 in
theorem w_c30 : (Jvm.Cond.code ({ cls := "java/util/Arrays", name := "checkLength", desc := "(II)V" } : Jvm.MethodName) jdk_65_method_131_code (2 : Nat) (Option.none : Option Jvm.ClassFile.FieldType)).before args0 about1 = true := code_word (m := ⟨16, 1⟩) (meth := k16m1) (c := k16c1) (by decide +kernel) rfl rfl rfl (by decide +kernel)
set_option maxRecDepth 65536 in
theorem w_c31 : (Jvm.Cond.code ({ cls := "java/lang/Math", name := "min", desc := "(II)I" } : Jvm.MethodName) jdk_29_method_69_code (2 : Nat) (Option.some Jvm.ClassFile.FieldType.int)).before args0 about1 = true := code_word (m := ⟨17, 1⟩) (meth := k17m1) (c := k17c1) (by decide +kernel) rfl rfl rfl (by decide +kernel)
set_option maxRecDepth 65536 in
theorem w_c32 : (Jvm.Cond.code ({ cls := "java/lang/String", name := "startsWith", desc := "(Ljava/lang/String;)Z" } : Jvm.MethodName) jdk_42_method_76_code (2 : Nat) (Option.some Jvm.ClassFile.FieldType.boolean)).before args0 about1 = true := code_word (m := ⟨7, 6⟩) (meth := k7m6) (c := k7c6) (by decide +kernel) rfl rfl rfl (by decide +kernel)
set_option maxRecDepth 65536 in
theorem w_c33 : (Jvm.Cond.code ({ cls := "java/lang/String", name := "startsWith", desc := "(Ljava/lang/String;I)Z" } : Jvm.MethodName) jdk_42_method_75_code (8 : Nat) (Option.some Jvm.ClassFile.FieldType.boolean)).before args0 about1 = true := code_word (m := ⟨7, 5⟩) (meth := k7m5) (c := k7c5) (by decide +kernel) rfl rfl rfl (by decide +kernel)
set_option maxRecDepth 65536 in
theorem w_c34 : (Jvm.Cond.code ({ cls := "jdk/internal/util/ArraysSupport", name := "mismatch", desc := "([BI[BII)I" } : Jvm.MethodName) jdk_48_method_14_code (8 : Nat) (Option.some Jvm.ClassFile.FieldType.int)).before args0 about1 = true := code_word (m := ⟨18, 1⟩) (meth := k18m1) (c := k18c1) (by decide +kernel) rfl rfl rfl (by decide +kernel)
def codes1 : List Jvm.Cond := [Jvm.Cond.code x code maxLocals ret, Jvm.Cond.code ({ cls := "com/example/covenantry/covenantry/input/LedgerIsUnderPinLaw", name := "mk", desc := "(CCCCI)Ljava/lang/String;" } : Jvm.MethodName) method_3_code (5 : Nat) (Option.some (Jvm.ClassFile.FieldType.object "java/lang/String")), Jvm.Cond.code ({ cls := "java/lang/String", name := "<init>", desc := "([C)V" } : Jvm.MethodName) jdk_42_method_3_code (2 : Nat) (Option.none : Option Jvm.ClassFile.FieldType), Jvm.Cond.code ({ cls := "java/lang/String", name := "<init>", desc := "([CIILjava/lang/Void;)V" } : Jvm.MethodName) jdk_42_method_149_code (6 : Nat) (Option.none : Option Jvm.ClassFile.FieldType), Jvm.Cond.code ({ cls := "java/lang/Object", name := "<init>", desc := "()V" } : Jvm.MethodName) object_method_1_code (1 : Nat) (Option.none : Option Jvm.ClassFile.FieldType), Jvm.Cond.code ({ cls := "com/example/covenantry/covenantry/input/Ledger", name := "isUnder", desc := "(Ljava/lang/String;Ljava/lang/String;)Z" } : Jvm.MethodName) prog_18_method_5_code (2 : Nat) (Option.some Jvm.ClassFile.FieldType.boolean), Jvm.Cond.code ({ cls := "java/lang/String", name := "equals", desc := "(Ljava/lang/Object;)Z" } : Jvm.MethodName) jdk_42_method_66_code (3 : Nat) (Option.some Jvm.ClassFile.FieldType.boolean), Jvm.Cond.code ({ cls := "java/lang/StringLatin1", name := "equals", desc := "([B[B)Z" } : Jvm.MethodName) jdk_43_method_13_code (3 : Nat) (Option.some Jvm.ClassFile.FieldType.boolean), Jvm.Cond.code ({ cls := "java/lang/StringUTF16", name := "compress", desc := "([CII)[B" } : Jvm.MethodName) jdk_52_method_16_code (6 : Nat) (Option.some (Jvm.ClassFile.FieldType.array Jvm.ClassFile.FieldType.byte)), Jvm.Cond.code ({ cls := "java/lang/StringUTF16", name := "compress", desc := "([CI[BII)I" } : Jvm.MethodName) jdk_52_method_21_code (7 : Nat) (Option.some Jvm.ClassFile.FieldType.int), Jvm.Cond.code ({ cls := "java/lang/StringUTF16", name := "coderFromArrayLen", desc := "([BI)B" } : Jvm.MethodName) jdk_52_method_15_code (2 : Nat) (Option.some Jvm.ClassFile.FieldType.byte), Jvm.Cond.code ({ cls := "java/lang/StringBuilder", name := "<init>", desc := "()V" } : Jvm.MethodName) jdk_67_method_1_code (1 : Nat) (Option.none : Option Jvm.ClassFile.FieldType), Jvm.Cond.code ({ cls := "java/lang/AbstractStringBuilder", name := "<init>", desc := "(I)V" } : Jvm.MethodName) jdk_68_method_2_code (2 : Nat) (Option.none : Option Jvm.ClassFile.FieldType), Jvm.Cond.code ({ cls := "java/lang/StringBuilder", name := "append", desc := "(Ljava/lang/String;)Ljava/lang/StringBuilder;" } : Jvm.MethodName) jdk_67_method_7_code (2 : Nat) (Option.some (Jvm.ClassFile.FieldType.object "java/lang/StringBuilder")), Jvm.Cond.code ({ cls := "java/lang/AbstractStringBuilder", name := "append", desc := "(Ljava/lang/String;)Ljava/lang/AbstractStringBuilder;" } : Jvm.MethodName) jdk_68_method_22_code (3 : Nat) (Option.some (Jvm.ClassFile.FieldType.object "java/lang/AbstractStringBuilder")), Jvm.Cond.code ({ cls := "java/lang/String", name := "length", desc := "()I" } : Jvm.MethodName) jdk_42_method_54_code (1 : Nat) (Option.some Jvm.ClassFile.FieldType.int), Jvm.Cond.code ({ cls := "java/lang/String", name := "coder", desc := "()B" } : Jvm.MethodName) jdk_42_method_152_code (1 : Nat) (Option.some Jvm.ClassFile.FieldType.byte), Jvm.Cond.code ({ cls := "java/lang/AbstractStringBuilder", name := "ensureCapacityInternal", desc := "(I)V" } : Jvm.MethodName) jdk_68_method_9_code (3 : Nat) (Option.none : Option Jvm.ClassFile.FieldType), Jvm.Cond.code ({ cls := "java/lang/AbstractStringBuilder", name := "putStringAt", desc := "(ILjava/lang/String;)V" } : Jvm.MethodName) jdk_68_method_73_code (3 : Nat) (Option.none : Option Jvm.ClassFile.FieldType), Jvm.Cond.code ({ cls := "java/lang/AbstractStringBuilder", name := "inflateIfNeededFor", desc := "(Ljava/lang/String;)V" } : Jvm.MethodName) jdk_68_method_71_code (2 : Nat) (Option.none : Option Jvm.ClassFile.FieldType), Jvm.Cond.code ({ cls := "java/lang/String", name := "getBytes", desc := "([BIB)V" } : Jvm.MethodName) jdk_42_method_147_code (4 : Nat) (Option.none : Option Jvm.ClassFile.FieldType), Jvm.Cond.code ({ cls := "java/lang/StringBuilder", name := "toString", desc := "()Ljava/lang/String;" } : Jvm.MethodName) jdk_67_method_42_code (1 : Nat) (Option.some (Jvm.ClassFile.FieldType.object "java/lang/String")), Jvm.Cond.code ({ cls := "java/lang/String", name := "<init>", desc := "(Ljava/lang/StringBuilder;)V" } : Jvm.MethodName) jdk_42_method_53_code (2 : Nat) (Option.none : Option Jvm.ClassFile.FieldType), Jvm.Cond.code ({ cls := "java/lang/String", name := "<init>", desc := "(Ljava/lang/AbstractStringBuilder;Ljava/lang/Void;)V" } : Jvm.MethodName) jdk_42_method_150_code (5 : Nat) (Option.none : Option Jvm.ClassFile.FieldType), Jvm.Cond.code ({ cls := "java/lang/AbstractStringBuilder", name := "getValue", desc := "()[B" } : Jvm.MethodName) jdk_68_method_64_code (1 : Nat) (Option.some (Jvm.ClassFile.FieldType.array Jvm.ClassFile.FieldType.byte)), Jvm.Cond.code ({ cls := "java/lang/StringBuilder", name := "length", desc := "()I" } : Jvm.MethodName) jdk_67_method_93_code (1 : Nat) (Option.some Jvm.ClassFile.FieldType.int), Jvm.Cond.code ({ cls := "java/lang/AbstractStringBuilder", name := "length", desc := "()I" } : Jvm.MethodName) jdk_68_method_6_code (1 : Nat) (Option.some Jvm.ClassFile.FieldType.int), Jvm.Cond.code ({ cls := "java/lang/AbstractStringBuilder", name := "isLatin1", desc := "()Z" } : Jvm.MethodName) jdk_68_method_68_code (1 : Nat) (Option.some Jvm.ClassFile.FieldType.boolean), Jvm.Cond.code ({ cls := "java/util/Arrays", name := "copyOfRange", desc := "([BII)[B" } : Jvm.MethodName) jdk_65_method_132_code (3 : Nat) (Option.some (Jvm.ClassFile.FieldType.array Jvm.ClassFile.FieldType.byte)), Jvm.Cond.code ({ cls := "java/util/Arrays", name := "copyOfRangeByte", desc := "([BII)[B" } : Jvm.MethodName) jdk_65_method_133_code (5 : Nat) (Option.some (Jvm.ClassFile.FieldType.array Jvm.ClassFile.FieldType.byte)), Jvm.Cond.code ({ cls := "java/util/Arrays", name := "checkLength", desc := "(II)V" } : Jvm.MethodName) jdk_65_method_131_code (2 : Nat) (Option.none : Option Jvm.ClassFile.FieldType), Jvm.Cond.code ({ cls := "java/lang/Math", name := "min", desc := "(II)I" } : Jvm.MethodName) jdk_29_method_69_code (2 : Nat) (Option.some Jvm.ClassFile.FieldType.int), Jvm.Cond.code ({ cls := "java/lang/String", name := "startsWith", desc := "(Ljava/lang/String;)Z" } : Jvm.MethodName) jdk_42_method_76_code (2 : Nat) (Option.some Jvm.ClassFile.FieldType.boolean), Jvm.Cond.code ({ cls := "java/lang/String", name := "startsWith", desc := "(Ljava/lang/String;I)Z" } : Jvm.MethodName) jdk_42_method_75_code (8 : Nat) (Option.some Jvm.ClassFile.FieldType.boolean), Jvm.Cond.code ({ cls := "jdk/internal/util/ArraysSupport", name := "mismatch", desc := "([BI[BII)I" } : Jvm.MethodName) jdk_48_method_14_code (8 : Nat) (Option.some Jvm.ClassFile.FieldType.int)]
set_option maxRecDepth 65536 in
theorem codes_eq : words1.filter isCode = codes1 := rfl
theorem w_codes : ∀ c ∈ words1.filter isCode, c.before args0 about1 = true := by
  rw [codes_eq]
  intro c hc
  simp only [codes1, List.mem_cons, List.not_mem_nil, or_false] at hc
  rcases hc with rfl | rfl | rfl | rfl | rfl | rfl | rfl | rfl | rfl | rfl | rfl | rfl | rfl | rfl | rfl | rfl | rfl | rfl | rfl | rfl | rfl | rfl | rfl | rfl | rfl | rfl | rfl | rfl | rfl | rfl | rfl | rfl | rfl | rfl | rfl
  · exact w_c0
  · exact w_c1
  · exact w_c2
  · exact w_c3
  · exact w_c4
  · exact w_c5
  · exact w_c6
  · exact w_c7
  · exact w_c8
  · exact w_c9
  · exact w_c10
  · exact w_c11
  · exact w_c12
  · exact w_c13
  · exact w_c14
  · exact w_c15
  · exact w_c16
  · exact w_c17
  · exact w_c18
  · exact w_c19
  · exact w_c20
  · exact w_c21
  · exact w_c22
  · exact w_c23
  · exact w_c24
  · exact w_c25
  · exact w_c26
  · exact w_c27
  · exact w_c28
  · exact w_c29
  · exact w_c30
  · exact w_c31
  · exact w_c32
  · exact w_c33
  · exact w_c34
set_option maxRecDepth 65536 in
theorem w_t1 : (words1.take 24).all (fun c => isCode c || c.before args0 about1) = true := by decide +kernel
set_option maxRecDepth 65536 in
theorem w_t2 : ((words1.drop 24).take 24).all (fun c => isCode c || c.before args0 about1) = true := by decide +kernel
set_option maxRecDepth 65536 in
theorem w_t3 : (((words1.drop 24).drop 24).take 24).all (fun c => isCode c || c.before args0 about1) = true := by decide +kernel
set_option maxRecDepth 65536 in
theorem w_t4 : ((((words1.drop 24).drop 24).drop 24).take 24).all (fun c => isCode c || c.before args0 about1) = true := by decide +kernel
set_option maxRecDepth 65536 in
theorem w_t5 : (((((words1.drop 24).drop 24).drop 24).drop 24).take 24).all (fun c => isCode c || c.before args0 about1) = true := by decide +kernel
set_option maxRecDepth 65536 in
theorem w_t6 : ((((((words1.drop 24).drop 24).drop 24).drop 24).drop 24).take 24).all (fun c => isCode c || c.before args0 about1) = true := by decide +kernel
set_option maxRecDepth 65536 in
theorem w_t7 : (((((((words1.drop 24).drop 24).drop 24).drop 24).drop 24).drop 24).take 24).all (fun c => isCode c || c.before args0 about1) = true := by decide +kernel
set_option maxRecDepth 65536 in
theorem w_t8 : (((((((words1.drop 24).drop 24).drop 24).drop 24).drop 24).drop 24).drop 24).all (fun c => isCode c || c.before args0 about1) = true := by decide +kernel
theorem w_tables : (allAtoms (Jvm.Cond.code x code maxLocals ret :: tables_1)).before args0 about1 = true := by
  rw [allAtoms_all]
  show words1.all (fun c => c.before args0 about1) = true
  refine all_split ?_ w_codes
  rw [← List.take_append_drop 24 words1, List.all_append, w_t1, ← List.take_append_drop 24 (words1.drop 24), List.all_append, w_t2, ← List.take_append_drop 24 ((words1.drop 24).drop 24), List.all_append, w_t3, ← List.take_append_drop 24 (((words1.drop 24).drop 24).drop 24), List.all_append, w_t4, ← List.take_append_drop 24 ((((words1.drop 24).drop 24).drop 24).drop 24), List.all_append, w_t5, ← List.take_append_drop 24 (((((words1.drop 24).drop 24).drop 24).drop 24).drop 24), List.all_append, w_t6, ← List.take_append_drop 24 ((((((words1.drop 24).drop 24).drop 24).drop 24).drop 24).drop 24), List.all_append, w_t7, w_t8]
  rfl
set_option maxRecDepth 65536 in
theorem w_rest : rest_1_c.before args0 about1 = true := by decide +kernel
set_option maxRecDepth 65536 in
theorem w_case : (Jvm.Cond.and given_1 narrow_1).before args0 about1 = true := by decide +kernel
set_option maxRecDepth 65536 in
theorem w_consts : constsHeld consts_1 about1 := Jvm.Lit.constsHeldB_iff.mp (by decide +kernel)
theorem w_applies : (headSpec (Jvm.Cond.code x code maxLocals ret :: tables_1) room_1).applies x e0.platform about1 = true :=
  (Spec.applies_iff w_frames).mpr ⟨w_running, w_runnable, w_alone, w_named, w_hears, w_ripe, w_room, w_tables⟩
theorem atStart : AtStart classFile x code maxLocals ret World_1 tables_1 room_1 Calls_1 rest_1 Pre_1 launch0 p0 e0 about1 theMethod args0 below0 :=
  ⟨lists_1, trivial, launch0.admits_env _ _ _, launch0.least_env, fairChoices_fair.cas, fairChoices_fair.clock, w_frames, w_args, w_heap, w_applies, ⟨w_consts, trivial⟩, w_rest, w_case⟩
end start1
theorem witness_1 : WitnessClaimed_1 := ⟨start1.p0, start1.e0, start1.about1, start1.theMethod, start1.args0, start1.below0, start1.atStart⟩
end Jvm.Pilot.@@N@@
